import PyProof.Rows.All
import Wide.All
import OpenK.AllK
import Wide.FinOn
import PySem.Challenge.RW_ik0220_02
open PySem PySem.W PySem.Spec PySem.Calls PyProof.Rows
set_option Elab.async false
set_option compiler.extract_closed false
set_option maxRecDepth 100000
set_option maxHeartbeats 8000000
set_option linter.all false
namespace Mine
open PySem PySem.W
noncomputable def hkAt1 (i : Nat) : Option Stmt := PySem.Challenge.rw_ik0220_02.prog.main.body[i]?
noncomputable def hkAt2 (i j : Nat) : Option Stmt := match hkAt1 i with
  | some (.ClassDef _ _ _ b _ _ _ _ _ _ _) => b[j]?
  | _ => none
noncomputable def hkFn (s : Option Stmt) : Arguments × List Stmt × Scope := match s with
  | some (.FunctionDef _ a b _ _ _ sc _ _ _) => (a, b, sc)
  | _ => (⟨[], [], none, [], [], none, []⟩, [], ⟨.function, [], false, false, []⟩)
noncomputable def heapK : Params → Frag := fun P => by
  refine' (fun (a35 : Arguments) (_ : a35 = (hkFn (hkAt2 4 0)).1) (l35 : List Stmt) (_ : l35 = (hkFn (hkAt2 4 0)).2.1) (s35 : Scope) (_ : s35 = (hkFn (hkAt2 4 0)).2.2) (a42 : Arguments) (_ : a42 = (hkFn (hkAt2 4 1)).1) (l42 : List Stmt) (_ : l42 = (hkFn (hkAt2 4 1)).2.1) (s42 : Scope) (_ : s42 = (hkFn (hkAt2 4 1)).2.2) (a56 : Arguments) (_ : a56 = (hkFn (hkAt2 4 3)).1) (l56 : List Stmt) (_ : l56 = (hkFn (hkAt2 4 3)).2.1) (s56 : Scope) (_ : s56 = (hkFn (hkAt2 4 3)).2.2) (a91 : Arguments) (_ : a91 = (hkFn (hkAt2 4 8)).1) (l91 : List Stmt) (_ : l91 = (hkFn (hkAt2 4 8)).2.1) (s91 : Scope) (_ : s91 = (hkFn (hkAt2 4 8)).2.2) (a115 : Arguments) (_ : a115 = (hkFn (hkAt2 5 0)).1) (l115 : List Stmt) (_ : l115 = (hkFn (hkAt2 5 0)).2.1) (s115 : Scope) (_ : s115 = (hkFn (hkAt2 5 0)).2.2) (a122 : Arguments) (_ : a122 = (hkFn (hkAt2 5 1)).1) (l122 : List Stmt) (_ : l122 = (hkFn (hkAt2 5 1)).2.1) (s122 : Scope) (_ : s122 = (hkFn (hkAt2 5 1)).2.2) (a130 : Arguments) (_ : a130 = (hkFn (hkAt2 5 2)).1) (l130 : List Stmt) (_ : l130 = (hkFn (hkAt2 5 2)).2.1) (s130 : Scope) (_ : s130 = (hkFn (hkAt2 5 2)).2.2) (a138 : Arguments) (_ : a138 = (hkFn (hkAt2 5 3)).1) (l138 : List Stmt) (_ : l138 = (hkFn (hkAt2 5 3)).2.1) (s138 : Scope) (_ : s138 = (hkFn (hkAt2 5 3)).2.2) (a145 : Arguments) (_ : a145 = (hkFn (hkAt2 5 4)).1) (l145 : List Stmt) (_ : l145 = (hkFn (hkAt2 5 4)).2.1) (s145 : Scope) (_ : s145 = (hkFn (hkAt2 5 4)).2.2) (a152 : Arguments) (_ : a152 = (hkFn (hkAt2 5 5)).1) (l152 : List Stmt) (_ : l152 = (hkFn (hkAt2 5 5)).2.1) (s152 : Scope) (_ : s152 = (hkFn (hkAt2 5 5)).2.2) (a160 : Arguments) (_ : a160 = (hkFn (hkAt2 5 6)).1) (l160 : List Stmt) (_ : l160 = (hkFn (hkAt2 5 6)).2.1) (s160 : Scope) (_ : s160 = (hkFn (hkAt2 5 6)).2.2) (a167 : Arguments) (_ : a167 = (hkFn (hkAt2 5 7)).1) (l167 : List Stmt) (_ : l167 = (hkFn (hkAt2 5 7)).2.1) (s167 : Scope) (_ : s167 = (hkFn (hkAt2 5 7)).2.2) (a175 : Arguments) (_ : a175 = (hkFn (hkAt2 5 8)).1) (l175 : List Stmt) (_ : l175 = (hkFn (hkAt2 5 8)).2.1) (s175 : Scope) (_ : s175 = (hkFn (hkAt2 5 8)).2.2) (a189 : Arguments) (_ : a189 = (hkFn (hkAt1 7)).1) (l189 : List Stmt) (_ : l189 = (hkFn (hkAt1 7)).2.1) (s189 : Scope) (_ : s189 = (hkFn (hkAt1 7)).2.2) (a196 : Arguments) (_ : a196 = (hkFn (hkAt1 8)).1) (l196 : List Stmt) (_ : l196 = (hkFn (hkAt1 8)).2.1) (s196 : Scope) (_ : s196 = (hkFn (hkAt1 8)).2.2) (a203 : Arguments) (_ : a203 = (hkFn (hkAt1 9)).1) (l203 : List Stmt) (_ : l203 = (hkFn (hkAt1 9)).2.1) (s203 : Scope) (_ : s203 = (hkFn (hkAt1 9)).2.2) (a210 : Arguments) (_ : a210 = (hkFn (hkAt1 10)).1) (l210 : List Stmt) (_ : l210 = (hkFn (hkAt1 10)).2.1) (s210 : Scope) (_ : s210 = (hkFn (hkAt1 10)).2.2) (a283 : Arguments) (_ : a283 = (hkFn (hkAt1 19)).1) (l283 : List Stmt) (_ : l283 = (hkFn (hkAt1 19)).2.1) (s283 : Scope) (_ : s283 = (hkFn (hkAt1 19)).2.2) (a297 : Arguments) (_ : a297 = (hkFn (hkAt1 23)).1) (l297 : List Stmt) (_ : l297 = (hkFn (hkAt1 23)).2.1) (s297 : Scope) (_ : s297 = (hkFn (hkAt1 23)).2.2) (a304 : Arguments) (_ : a304 = (hkFn (hkAt1 24)).1) (l304 : List Stmt) (_ : l304 = (hkFn (hkAt1 24)).2.1) (s304 : Scope) (_ : s304 = (hkFn (hkAt1 24)).2.2) (a311 : Arguments) (_ : a311 = (hkFn (hkAt1 25)).1) (l311 : List Stmt) (_ : l311 = (hkFn (hkAt1 25)).2.1) (s311 : Scope) (_ : s311 = (hkFn (hkAt1 25)).2.2) (a318 : Arguments) (_ : a318 = (hkFn (hkAt1 26)).1) (l318 : List Stmt) (_ : l318 = (hkFn (hkAt1 26)).2.1) (s318 : Scope) (_ : s318 = (hkFn (hkAt1 26)).2.2) (a325 : Arguments) (_ : a325 = (hkFn (hkAt1 27)).1) (l325 : List Stmt) (_ : l325 = (hkFn (hkAt1 27)).2.1) (s325 : Scope) (_ : s325 = (hkFn (hkAt1 27)).2.2) (a332 : Arguments) (_ : a332 = (hkFn (hkAt1 29)).1) (l332 : List Stmt) (_ : l332 = (hkFn (hkAt1 29)).2.1) (s332 : Scope) (_ : s332 = (hkFn (hkAt1 29)).2.2) (a339 : Arguments) (_ : a339 = (hkFn (hkAt1 30)).1) (l339 : List Stmt) (_ : l339 = (hkFn (hkAt1 30)).2.1) (s339 : Scope) (_ : s339 = (hkFn (hkAt1 30)).2.2) (a344 : Arguments) (_ : a344 = (hkFn (hkAt1 31)).1) (l344 : List Stmt) (_ : l344 = (hkFn (hkAt1 31)).2.1) (s344 : Scope) (_ : s344 = (hkFn (hkAt1 31)).2.2) (a349 : Arguments) (_ : a349 = (hkFn (hkAt1 32)).1) (l349 : List Stmt) (_ : l349 = (hkFn (hkAt1 32)).2.1) (s349 : Scope) (_ : s349 = (hkFn (hkAt1 32)).2.2) (a356 : Arguments) (_ : a356 = (hkFn (hkAt1 33)).1) (l356 : List Stmt) (_ : l356 = (hkFn (hkAt1 33)).2.1) (s356 : Scope) (_ : s356 = (hkFn (hkAt1 33)).2.2) (a363 : Arguments) (_ : a363 = (hkFn (hkAt1 34)).1) (l363 : List Stmt) (_ : l363 = (hkFn (hkAt1 34)).2.1) (s363 : Scope) (_ : s363 = (hkFn (hkAt1 34)).2.2) (a368 : Arguments) (_ : a368 = (hkFn (hkAt1 35)).1) (l368 : List Stmt) (_ : l368 = (hkFn (hkAt1 35)).2.1) (s368 : Scope) (_ : s368 = (hkFn (hkAt1 35)).2.2) (a373 : Arguments) (_ : a373 = (hkFn (hkAt1 36)).1) (l373 : List Stmt) (_ : l373 = (hkFn (hkAt1 36)).2.1) (s373 : Scope) (_ : s373 = (hkFn (hkAt1 36)).2.2) => ((nat_lit 2, (Obj.mk Value.none (@none Nat) (Data.dict (List.toArray []) (0 : Nat)) (List.toArray []))) ::
    (nat_lit 3, (Obj.mk (Value.type "dict") (@none Nat) (Data.dict (List.toArray ((DictEntry.mk (PyData.keyHash P (Str.ofString "__name__")) (Value.str (Str.ofString "__name__") (165 : Nat)) (Value.str (Str.ofString "law_ik0220_02") (615 : Nat))) :: (DictEntry.mk (PyData.keyHash P (Str.ofString "__doc__")) (Value.str (Str.ofString "__doc__") (166 : Nat)) Value.none) :: (DictEntry.mk (PyData.keyHash P (Str.ofString "__package__")) (Value.str (Str.ofString "__package__") (167 : Nat)) Value.none) :: (DictEntry.mk (PyData.keyHash P (Str.ofString "__loader__")) (Value.str (Str.ofString "__loader__") (168 : Nat)) (Value.builtin "__main__.__loader__#opaque")) :: (DictEntry.mk (PyData.keyHash P (Str.ofString "__spec__")) (Value.str (Str.ofString "__spec__") (169 : Nat)) Value.none) :: (DictEntry.mk (PyData.keyHash P (Str.ofString "__annotations__")) (Value.str (Str.ofString "__annotations__") (170 : Nat)) (Value.ref (6 : Nat))) :: (DictEntry.mk (PyData.keyHash P (Str.ofString "__builtins__")) (Value.str (Str.ofString "__builtins__") (171 : Nat)) (Value.ref (4 : Nat))) :: (DictEntry.mk (PyData.keyHash P (Str.ofString "__file__")) (Value.str (Str.ofString "__file__") (173 : Nat)) (Value.str (Str.ofString "/claim/cut.py") (172 : Nat))) :: (DictEntry.mk (PyData.keyHash P (Str.ofString "__cached__")) (Value.str (Str.ofString "__cached__") (174 : Nat)) Value.none) :: (DictEntry.mk (PyData.keyHash P (Str.ofString "_wall")) (Value.str (Str.ofString "_wall") (193 : Nat)) (Value.ref (21 : Nat))) :: (DictEntry.mk (PyData.keyHash P (Str.ofString "NL")) (Value.str (Str.ofString "NL") (197 : Nat)) (Value.str (Str.ofString "\n") (196 : Nat))) :: (DictEntry.mk (PyData.keyHash P (Str.ofString "EMPTYSTRING")) (Value.str (Str.ofString "EMPTYSTRING") (199 : Nat)) (Value.str (Str.ofString "") (198 : Nat))) :: (DictEntry.mk (PyData.keyHash P (Str.ofString "_ValueFormatter")) (Value.str (Str.ofString "_ValueFormatter") (307 : Nat)) (Value.ref (94 : Nat))) :: (DictEntry.mk (PyData.keyHash P (Str.ofString "_Accumulator")) (Value.str (Str.ofString "_Accumulator") (403 : Nat)) (Value.ref (178 : Nat))) :: (DictEntry.mk (PyData.keyHash P (Str.ofString "heappush")) (Value.str (Str.ofString "heappush") (413 : Nat)) (Value.ref (189 : Nat))) :: (DictEntry.mk (PyData.keyHash P (Str.ofString "heappop")) (Value.str (Str.ofString "heappop") (422 : Nat)) (Value.ref (196 : Nat))) :: (DictEntry.mk (PyData.keyHash P (Str.ofString "_siftdown")) (Value.str (Str.ofString "_siftdown") (434 : Nat)) (Value.ref (203 : Nat))) :: (DictEntry.mk (PyData.keyHash P (Str.ofString "_siftup")) (Value.str (Str.ofString "_siftup") (447 : Nat)) (Value.ref (210 : Nat))) :: (DictEntry.mk (PyData.keyHash P (Str.ofString "_plain_name")) (Value.str (Str.ofString "_plain_name") (458 : Nat)) (Value.ref (217 : Nat))) :: (DictEntry.mk (PyData.keyHash P (Str.ofString "ABCMeta")) (Value.str (Str.ofString "ABCMeta") (484 : Nat)) (Value.ref (234 : Nat))) :: (DictEntry.mk (PyData.keyHash P (Str.ofString "_ABCLike")) (Value.str (Str.ofString "_ABCLike") (527 : Nat)) (Value.ref (267 : Nat))) :: (DictEntry.mk (PyData.keyHash P (Str.ofString "_abc_plain_meta")) (Value.str (Str.ofString "_abc_plain_meta") (534 : Nat)) (Value.ref (276 : Nat))) :: (DictEntry.mk (PyData.keyHash P (Str.ofString "fspath")) (Value.str (Str.ofString "fspath") (546 : Nat)) (Value.ref (283 : Nat))) :: (DictEntry.mk (PyData.keyHash P (Str.ofString "_check_arg_types")) (Value.str (Str.ofString "_check_arg_types") (559 : Nat)) (Value.ref (290 : Nat))) :: (DictEntry.mk (PyData.keyHash P (Str.ofString "_get_sep")) (Value.str (Str.ofString "_get_sep") (568 : Nat)) (Value.ref (297 : Nat))) :: (DictEntry.mk (PyData.keyHash P (Str.ofString "join")) (Value.str (Str.ofString "join") (579 : Nat)) (Value.ref (304 : Nat))) :: (DictEntry.mk (PyData.keyHash P (Str.ofString "split")) (Value.str (Str.ofString "split") (590 : Nat)) (Value.ref (311 : Nat))) :: (DictEntry.mk (PyData.keyHash P (Str.ofString "splitroot")) (Value.str (Str.ofString "splitroot") (599 : Nat)) (Value.ref (318 : Nat))) :: (DictEntry.mk (PyData.keyHash P (Str.ofString "normpath")) (Value.str (Str.ofString "normpath") (614 : Nat)) (Value.ref (325 : Nat))) :: (DictEntry.mk (PyData.keyHash P (Str.ofString "_law_raw")) (Value.str (Str.ofString "_law_raw") (624 : Nat)) (Value.ref (332 : Nat))) :: (DictEntry.mk (PyData.keyHash P (Str.ofString "_law_names")) (Value.str (Str.ofString "_law_names") (634 : Nat)) (Value.ref (339 : Nat))) :: (DictEntry.mk (PyData.keyHash P (Str.ofString "_law_told")) (Value.str (Str.ofString "_law_told") (640 : Nat)) (Value.ref (344 : Nat))) :: (DictEntry.mk (PyData.keyHash P (Str.ofString "_law_due")) (Value.str (Str.ofString "_law_due") (646 : Nat)) (Value.ref (349 : Nat))) :: (DictEntry.mk (PyData.keyHash P (Str.ofString "_law_texts")) (Value.str (Str.ofString "_law_texts") (656 : Nat)) (Value.ref (356 : Nat))) :: (DictEntry.mk (PyData.keyHash P (Str.ofString "_law_written")) (Value.str (Str.ofString "_law_written") (667 : Nat)) (Value.ref (363 : Nat))) :: (DictEntry.mk (PyData.keyHash P (Str.ofString "_law_twin")) (Value.str (Str.ofString "_law_twin") (673 : Nat)) (Value.ref (368 : Nat))) :: (DictEntry.mk (PyData.keyHash P (Str.ofString "law")) (Value.str (Str.ofString "law") (679 : Nat)) (Value.ref (373 : Nat))) :: [])) (37 : Nat)) (List.toArray []))) ::
    (nat_lit 34, (Obj.mk (Value.type "code") (@none Nat) (Data.fields (List.toArray ((Value.str (Str.ofString "__init__") (212 : Nat)) :: (Value.str (Str.ofString "_ValueFormatter.__init__") (213 : Nat)) :: (Value.str (Str.ofString "/claim/cut.py") (214 : Nat)) :: (Value.int (9 : Int) (0 : Nat)) :: (Value.int (5 : Int) (0 : Nat)) :: (Value.int (0 : Int) (0 : Nat)) :: (Value.int (0 : Int) (0 : Nat)) :: (Value.int (3 : Int) (0 : Nat)) :: (Value.ref (29 : Nat)) :: (Value.bool Bool.true) :: (Value.int (181 : Int) (0 : Nat)) :: (Value.ref (30 : Nat)) :: Value.none :: (Value.ref (31 : Nat)) :: (Value.ref (32 : Nat)) :: (Value.ref (33 : Nat)) :: (Value.int (220 : Int) (0 : Nat)) :: (Value.int (9 : Int) (0 : Nat)) :: (Value.str (Str.ofString "/claim/cut.py") (221 : Nat)) :: []))) (List.toArray []))) ::
    (nat_lit 35, (Obj.mk (Value.type "function") (@none Nat) (Data.func (FuncData.mk (Str.ofString "__init__") (Str.ofString "_ValueFormatter.__init__") a35 (FuncBody.stmts l35) s35 (3 : Nat) [] Value.none Value.none Value.none (Value.str (Str.ofString "cpy313.email.header") (194 : Nat)) (@none Nat) (Value.ref (34 : Nat)) Value.none (0 : Nat))) (List.toArray []))) ::
    (nat_lit 41, (Obj.mk (Value.type "code") (@none Nat) (Data.fields (List.toArray ((Value.str (Str.ofString "_str") (223 : Nat)) :: (Value.str (Str.ofString "_ValueFormatter._str") (224 : Nat)) :: (Value.str (Str.ofString "/claim/cut.py") (225 : Nat)) :: (Value.int (17 : Int) (0 : Nat)) :: (Value.int (2 : Int) (0 : Nat)) :: (Value.int (0 : Int) (0 : Nat)) :: (Value.int (0 : Int) (0 : Nat)) :: (Value.int (3 : Int) (0 : Nat)) :: (Value.ref (36 : Nat)) :: (Value.bool Bool.true) :: (Value.int (181 : Int) (0 : Nat)) :: (Value.ref (37 : Nat)) :: Value.none :: (Value.ref (38 : Nat)) :: (Value.ref (39 : Nat)) :: (Value.ref (40 : Nat)) :: (Value.int (228 : Int) (0 : Nat)) :: (Value.int (17 : Int) (0 : Nat)) :: (Value.str (Str.ofString "/claim/cut.py") (229 : Nat)) :: []))) (List.toArray []))) ::
    (nat_lit 42, (Obj.mk (Value.type "function") (@none Nat) (Data.func (FuncData.mk (Str.ofString "_str") (Str.ofString "_ValueFormatter._str") a42 (FuncBody.stmts l42) s42 (3 : Nat) [] Value.none Value.none Value.none (Value.str (Str.ofString "cpy313.email.header") (194 : Nat)) (@none Nat) (Value.ref (41 : Nat)) Value.none (0 : Nat))) (List.toArray []))) ::
    (nat_lit 55, (Obj.mk (Value.type "code") (@none Nat) (Data.fields (List.toArray ((Value.str (Str.ofString "newline") (238 : Nat)) :: (Value.str (Str.ofString "_ValueFormatter.newline") (239 : Nat)) :: (Value.str (Str.ofString "/claim/cut.py") (240 : Nat)) :: (Value.int (24 : Int) (0 : Nat)) :: (Value.int (1 : Int) (0 : Nat)) :: (Value.int (0 : Int) (0 : Nat)) :: (Value.int (0 : Int) (0 : Nat)) :: (Value.int (3 : Int) (0 : Nat)) :: (Value.ref (50 : Nat)) :: (Value.bool Bool.true) :: (Value.int (181 : Int) (0 : Nat)) :: (Value.ref (51 : Nat)) :: Value.none :: (Value.ref (52 : Nat)) :: (Value.ref (53 : Nat)) :: (Value.ref (54 : Nat)) :: (Value.int (243 : Int) (0 : Nat)) :: (Value.int (24 : Int) (0 : Nat)) :: (Value.str (Str.ofString "/claim/cut.py") (244 : Nat)) :: []))) (List.toArray []))) ::
    (nat_lit 56, (Obj.mk (Value.type "function") (@none Nat) (Data.func (FuncData.mk (Str.ofString "newline") (Str.ofString "_ValueFormatter.newline") a56 (FuncBody.stmts l56) s56 (3 : Nat) [] Value.none Value.none Value.none (Value.str (Str.ofString "cpy313.email.header") (194 : Nat)) (@none Nat) (Value.ref (55 : Nat)) Value.none (0 : Nat))) (List.toArray []))) ::
    (nat_lit 90, (Obj.mk (Value.type "code") (@none Nat) (Data.fields (List.toArray ((Value.str (Str.ofString "_append_chunk") (280 : Nat)) :: (Value.str (Str.ofString "_ValueFormatter._append_chunk") (281 : Nat)) :: (Value.str (Str.ofString "/claim/cut.py") (282 : Nat)) :: (Value.int (47 : Int) (0 : Nat)) :: (Value.int (3 : Int) (0 : Nat)) :: (Value.int (0 : Int) (0 : Nat)) :: (Value.int (0 : Int) (0 : Nat)) :: (Value.int (3 : Int) (0 : Nat)) :: (Value.ref (85 : Nat)) :: (Value.bool Bool.true) :: (Value.int (181 : Int) (0 : Nat)) :: (Value.ref (86 : Nat)) :: Value.none :: (Value.ref (87 : Nat)) :: (Value.ref (88 : Nat)) :: (Value.ref (89 : Nat)) :: (Value.int (291 : Int) (0 : Nat)) :: (Value.int (47 : Int) (0 : Nat)) :: (Value.str (Str.ofString "/claim/cut.py") (292 : Nat)) :: []))) (List.toArray []))) ::
    (nat_lit 91, (Obj.mk (Value.type "function") (@none Nat) (Data.func (FuncData.mk (Str.ofString "_append_chunk") (Str.ofString "_ValueFormatter._append_chunk") a91 (FuncBody.stmts l91) s91 (3 : Nat) [] Value.none Value.none Value.none (Value.str (Str.ofString "cpy313.email.header") (194 : Nat)) (@none Nat) (Value.ref (90 : Nat)) Value.none (0 : Nat))) (List.toArray []))) ::
    (nat_lit 93, (Obj.mk (Value.type "dict") (@none Nat) (Data.dict (List.toArray ((DictEntry.mk (PyData.keyHash P (Str.ofString "__module__")) (Value.str (Str.ofString "__module__") (207 : Nat)) (Value.str (Str.ofString "cpy313.email.header") (194 : Nat))) :: (DictEntry.mk (PyData.keyHash P (Str.ofString "__firstlineno__")) (Value.str (Str.ofString "__firstlineno__") (211 : Nat)) (Value.int (7 : Int) (210 : Nat))) :: (DictEntry.mk (PyData.keyHash P (Str.ofString "__init__")) (Value.str (Str.ofString "__init__") (222 : Nat)) (Value.ref (35 : Nat))) :: (DictEntry.mk (PyData.keyHash P (Str.ofString "_str")) (Value.str (Str.ofString "_str") (230 : Nat)) (Value.ref (42 : Nat))) :: (DictEntry.mk (PyData.keyHash P (Str.ofString "__str__")) (Value.str (Str.ofString "__str__") (237 : Nat)) (Value.ref (49 : Nat))) :: (DictEntry.mk (PyData.keyHash P (Str.ofString "newline")) (Value.str (Str.ofString "newline") (245 : Nat)) (Value.ref (56 : Nat))) :: (DictEntry.mk (PyData.keyHash P (Str.ofString "add_transition")) (Value.str (Str.ofString "add_transition") (252 : Nat)) (Value.ref (63 : Nat))) :: (DictEntry.mk (PyData.keyHash P (Str.ofString "feed")) (Value.str (Str.ofString "feed") (262 : Nat)) (Value.ref (70 : Nat))) :: (DictEntry.mk (PyData.keyHash P (Str.ofString "_maxlengths")) (Value.str (Str.ofString "_maxlengths") (269 : Nat)) (Value.ref (77 : Nat))) :: (DictEntry.mk (PyData.keyHash P (Str.ofString "_ascii_split")) (Value.str (Str.ofString "_ascii_split") (279 : Nat)) (Value.ref (84 : Nat))) :: (DictEntry.mk (PyData.keyHash P (Str.ofString "_append_chunk")) (Value.str (Str.ofString "_append_chunk") (293 : Nat)) (Value.ref (91 : Nat))) :: (DictEntry.mk (PyData.keyHash P (Str.ofString "__static_attributes__")) (Value.str (Str.ofString "__static_attributes__") (300 : Nat)) (Value.ref (92 : Nat))) :: (DictEntry.mk (PyData.keyHash P (Str.ofString "__dict__")) (Value.str (Str.ofString "__dict__") (302 : Nat)) (Value.ref (95 : Nat))) :: (DictEntry.mk (PyData.keyHash P (Str.ofString "__weakref__")) (Value.str (Str.ofString "__weakref__") (304 : Nat)) (Value.ref (96 : Nat))) :: (DictEntry.mk (PyData.keyHash P (Str.ofString "__doc__")) (Value.str (Str.ofString "__doc__") (305 : Nat)) Value.none) :: [])) (4 : Nat)) (List.toArray []))) ::
    (nat_lit 94, (Obj.mk (Value.type "type") (@none Nat) (Data.cls (ClassData.mk (Str.ofString "_ValueFormatter") [(Value.type "object")] [(Value.ref (94 : Nat)), (Value.type "object")] (93 : Nat) (Str.ofString "_ValueFormatter") Bool.true [] [] Bool.false none Bool.false)) (List.toArray (none :: none :: (some (Value.str (Str.ofString "_ValueFormatter") (200 : Nat))) :: (some (Value.str (Str.ofString "_ValueFormatter") (208 : Nat))) :: (some (Value.builtin "object.__new__")) :: (some (Value.bool Bool.true)) :: [])))) ::
    (nat_lit 102, (Obj.mk (Value.type "cell") (@none Nat) (Data.cell (some (Value.ref (178 : Nat)))) (List.toArray []))) ::
    (nat_lit 107, (Obj.mk (Value.type "tuple") (@none Nat) (Data.seq (List.toArray [(Value.int (0 : Int) (320 : Nat))]) (0 : Nat)) (List.toArray []))) ::
    (nat_lit 108, (Obj.mk (Value.type "tuple") (@none Nat) (Data.seq (List.toArray [(Value.ref (102 : Nat))]) (0 : Nat)) (List.toArray []))) ::
    (nat_lit 114, (Obj.mk (Value.type "code") (@none Nat) (Data.fields (List.toArray ((Value.str (Str.ofString "__init__") (321 : Nat)) :: (Value.str (Str.ofString "_Accumulator.__init__") (322 : Nat)) :: (Value.str (Str.ofString "/claim/cut.py") (323 : Nat)) :: (Value.int (75 : Int) (0 : Nat)) :: (Value.int (2 : Int) (0 : Nat)) :: (Value.int (0 : Int) (0 : Nat)) :: (Value.int (0 : Int) (0 : Nat)) :: (Value.int (3 : Int) (0 : Nat)) :: (Value.ref (109 : Nat)) :: (Value.bool Bool.true) :: (Value.int (181 : Int) (0 : Nat)) :: (Value.ref (110 : Nat)) :: Value.none :: (Value.ref (111 : Nat)) :: (Value.ref (112 : Nat)) :: (Value.ref (113 : Nat)) :: (Value.int (327 : Int) (0 : Nat)) :: (Value.int (75 : Int) (0 : Nat)) :: (Value.str (Str.ofString "/claim/cut.py") (328 : Nat)) :: []))) (List.toArray []))) ::
    (nat_lit 115, (Obj.mk (Value.type "function") (@none Nat) (Data.func (FuncData.mk (Str.ofString "__init__") (Str.ofString "_Accumulator.__init__") a115 (FuncBody.stmts l115) s115 (3 : Nat) [((Str.ofString "__class__"), (102 : Nat))] (Value.ref (107 : Nat)) Value.none Value.none (Value.str (Str.ofString "cpy313.email.header") (194 : Nat)) (@none Nat) (Value.ref (114 : Nat)) (Value.ref (108 : Nat)) (0 : Nat))) (List.toArray []))) ::
    (nat_lit 121, (Obj.mk (Value.type "code") (@none Nat) (Data.fields (List.toArray ((Value.str (Str.ofString "push") (330 : Nat)) :: (Value.str (Str.ofString "_Accumulator.push") (331 : Nat)) :: (Value.str (Str.ofString "/claim/cut.py") (332 : Nat)) :: (Value.int (79 : Int) (0 : Nat)) :: (Value.int (3 : Int) (0 : Nat)) :: (Value.int (0 : Int) (0 : Nat)) :: (Value.int (0 : Int) (0 : Nat)) :: (Value.int (3 : Int) (0 : Nat)) :: (Value.ref (116 : Nat)) :: (Value.bool Bool.true) :: (Value.int (181 : Int) (0 : Nat)) :: (Value.ref (117 : Nat)) :: Value.none :: (Value.ref (118 : Nat)) :: (Value.ref (119 : Nat)) :: (Value.ref (120 : Nat)) :: (Value.int (336 : Int) (0 : Nat)) :: (Value.int (79 : Int) (0 : Nat)) :: (Value.str (Str.ofString "/claim/cut.py") (337 : Nat)) :: []))) (List.toArray []))) ::
    (nat_lit 122, (Obj.mk (Value.type "function") (@none Nat) (Data.func (FuncData.mk (Str.ofString "push") (Str.ofString "_Accumulator.push") a122 (FuncBody.stmts l122) s122 (3 : Nat) [] Value.none Value.none Value.none (Value.str (Str.ofString "cpy313.email.header") (194 : Nat)) (@none Nat) (Value.ref (121 : Nat)) Value.none (0 : Nat))) (List.toArray []))) ::
    (nat_lit 123, (Obj.mk (Value.type "tuple") (@none Nat) (Data.seq (List.toArray [(Value.int (0 : Int) (339 : Nat))]) (0 : Nat)) (List.toArray []))) ::
    (nat_lit 129, (Obj.mk (Value.type "code") (@none Nat) (Data.fields (List.toArray ((Value.str (Str.ofString "pop_from") (340 : Nat)) :: (Value.str (Str.ofString "_Accumulator.pop_from") (341 : Nat)) :: (Value.str (Str.ofString "/claim/cut.py") (342 : Nat)) :: (Value.int (82 : Int) (0 : Nat)) :: (Value.int (2 : Int) (0 : Nat)) :: (Value.int (0 : Int) (0 : Nat)) :: (Value.int (0 : Int) (0 : Nat)) :: (Value.int (3 : Int) (0 : Nat)) :: (Value.ref (124 : Nat)) :: (Value.bool Bool.true) :: (Value.int (181 : Int) (0 : Nat)) :: (Value.ref (125 : Nat)) :: Value.none :: (Value.ref (126 : Nat)) :: (Value.ref (127 : Nat)) :: (Value.ref (128 : Nat)) :: (Value.int (346 : Int) (0 : Nat)) :: (Value.int (82 : Int) (0 : Nat)) :: (Value.str (Str.ofString "/claim/cut.py") (347 : Nat)) :: []))) (List.toArray []))) ::
    (nat_lit 130, (Obj.mk (Value.type "function") (@none Nat) (Data.func (FuncData.mk (Str.ofString "pop_from") (Str.ofString "_Accumulator.pop_from") a130 (FuncBody.stmts l130) s130 (3 : Nat) [] (Value.ref (123 : Nat)) Value.none Value.none (Value.str (Str.ofString "cpy313.email.header") (194 : Nat)) (@none Nat) (Value.ref (129 : Nat)) Value.none (0 : Nat))) (List.toArray []))) ::
    (nat_lit 131, (Obj.mk (Value.type "tuple") (@none Nat) (Data.seq (List.toArray [(Value.ref (102 : Nat))]) (0 : Nat)) (List.toArray []))) ::
    (nat_lit 137, (Obj.mk (Value.type "code") (@none Nat) (Data.fields (List.toArray ((Value.str (Str.ofString "pop") (349 : Nat)) :: (Value.str (Str.ofString "_Accumulator.pop") (350 : Nat)) :: (Value.str (Str.ofString "/claim/cut.py") (351 : Nat)) :: (Value.int (87 : Int) (0 : Nat)) :: (Value.int (1 : Int) (0 : Nat)) :: (Value.int (0 : Int) (0 : Nat)) :: (Value.int (0 : Int) (0 : Nat)) :: (Value.int (3 : Int) (0 : Nat)) :: (Value.ref (132 : Nat)) :: (Value.bool Bool.true) :: (Value.int (181 : Int) (0 : Nat)) :: (Value.ref (133 : Nat)) :: Value.none :: (Value.ref (134 : Nat)) :: (Value.ref (135 : Nat)) :: (Value.ref (136 : Nat)) :: (Value.int (354 : Int) (0 : Nat)) :: (Value.int (87 : Int) (0 : Nat)) :: (Value.str (Str.ofString "/claim/cut.py") (355 : Nat)) :: []))) (List.toArray []))) ::
    (nat_lit 138, (Obj.mk (Value.type "function") (@none Nat) (Data.func (FuncData.mk (Str.ofString "pop") (Str.ofString "_Accumulator.pop") a138 (FuncBody.stmts l138) s138 (3 : Nat) [((Str.ofString "__class__"), (102 : Nat))] Value.none Value.none Value.none (Value.str (Str.ofString "cpy313.email.header") (194 : Nat)) (@none Nat) (Value.ref (137 : Nat)) (Value.ref (131 : Nat)) (0 : Nat))) (List.toArray []))) ::
    (nat_lit 144, (Obj.mk (Value.type "code") (@none Nat) (Data.fields (List.toArray ((Value.str (Str.ofString "__len__") (357 : Nat)) :: (Value.str (Str.ofString "_Accumulator.__len__") (358 : Nat)) :: (Value.str (Str.ofString "/claim/cut.py") (359 : Nat)) :: (Value.int (92 : Int) (0 : Nat)) :: (Value.int (1 : Int) (0 : Nat)) :: (Value.int (0 : Int) (0 : Nat)) :: (Value.int (0 : Int) (0 : Nat)) :: (Value.int (3 : Int) (0 : Nat)) :: (Value.ref (139 : Nat)) :: (Value.bool Bool.true) :: (Value.int (181 : Int) (0 : Nat)) :: (Value.ref (140 : Nat)) :: Value.none :: (Value.ref (141 : Nat)) :: (Value.ref (142 : Nat)) :: (Value.ref (143 : Nat)) :: (Value.int (361 : Int) (0 : Nat)) :: (Value.int (92 : Int) (0 : Nat)) :: (Value.str (Str.ofString "/claim/cut.py") (362 : Nat)) :: []))) (List.toArray []))) ::
    (nat_lit 145, (Obj.mk (Value.type "function") (@none Nat) (Data.func (FuncData.mk (Str.ofString "__len__") (Str.ofString "_Accumulator.__len__") a145 (FuncBody.stmts l145) s145 (3 : Nat) [] Value.none Value.none Value.none (Value.str (Str.ofString "cpy313.email.header") (194 : Nat)) (@none Nat) (Value.ref (144 : Nat)) Value.none (0 : Nat))) (List.toArray []))) ::
    (nat_lit 151, (Obj.mk (Value.type "code") (@none Nat) (Data.fields (List.toArray ((Value.str (Str.ofString "__str__") (364 : Nat)) :: (Value.str (Str.ofString "_Accumulator.__str__") (365 : Nat)) :: (Value.str (Str.ofString "/claim/cut.py") (366 : Nat)) :: (Value.int (95 : Int) (0 : Nat)) :: (Value.int (1 : Int) (0 : Nat)) :: (Value.int (0 : Int) (0 : Nat)) :: (Value.int (0 : Int) (0 : Nat)) :: (Value.int (3 : Int) (0 : Nat)) :: (Value.ref (146 : Nat)) :: (Value.bool Bool.true) :: (Value.int (181 : Int) (0 : Nat)) :: (Value.ref (147 : Nat)) :: Value.none :: (Value.ref (148 : Nat)) :: (Value.ref (149 : Nat)) :: (Value.ref (150 : Nat)) :: (Value.int (368 : Int) (0 : Nat)) :: (Value.int (95 : Int) (0 : Nat)) :: (Value.str (Str.ofString "/claim/cut.py") (369 : Nat)) :: []))) (List.toArray []))) ::
    (nat_lit 152, (Obj.mk (Value.type "function") (@none Nat) (Data.func (FuncData.mk (Str.ofString "__str__") (Str.ofString "_Accumulator.__str__") a152 (FuncBody.stmts l152) s152 (3 : Nat) [] Value.none Value.none Value.none (Value.str (Str.ofString "cpy313.email.header") (194 : Nat)) (@none Nat) (Value.ref (151 : Nat)) Value.none (0 : Nat))) (List.toArray []))) ::
    (nat_lit 153, (Obj.mk (Value.type "tuple") (@none Nat) (Data.seq (List.toArray [Value.none]) (0 : Nat)) (List.toArray []))) ::
    (nat_lit 159, (Obj.mk (Value.type "code") (@none Nat) (Data.fields (List.toArray ((Value.str (Str.ofString "reset") (371 : Nat)) :: (Value.str (Str.ofString "_Accumulator.reset") (372 : Nat)) :: (Value.str (Str.ofString "/claim/cut.py") (373 : Nat)) :: (Value.int (98 : Int) (0 : Nat)) :: (Value.int (2 : Int) (0 : Nat)) :: (Value.int (0 : Int) (0 : Nat)) :: (Value.int (0 : Int) (0 : Nat)) :: (Value.int (3 : Int) (0 : Nat)) :: (Value.ref (154 : Nat)) :: (Value.bool Bool.true) :: (Value.int (181 : Int) (0 : Nat)) :: (Value.ref (155 : Nat)) :: Value.none :: (Value.ref (156 : Nat)) :: (Value.ref (157 : Nat)) :: (Value.ref (158 : Nat)) :: (Value.int (376 : Int) (0 : Nat)) :: (Value.int (98 : Int) (0 : Nat)) :: (Value.str (Str.ofString "/claim/cut.py") (377 : Nat)) :: []))) (List.toArray []))) ::
    (nat_lit 160, (Obj.mk (Value.type "function") (@none Nat) (Data.func (FuncData.mk (Str.ofString "reset") (Str.ofString "_Accumulator.reset") a160 (FuncBody.stmts l160) s160 (3 : Nat) [] (Value.ref (153 : Nat)) Value.none Value.none (Value.str (Str.ofString "cpy313.email.header") (194 : Nat)) (@none Nat) (Value.ref (159 : Nat)) Value.none (0 : Nat))) (List.toArray []))) ::
    (nat_lit 166, (Obj.mk (Value.type "code") (@none Nat) (Data.fields (List.toArray ((Value.str (Str.ofString "is_onlyws") (379 : Nat)) :: (Value.str (Str.ofString "_Accumulator.is_onlyws") (380 : Nat)) :: (Value.str (Str.ofString "/claim/cut.py") (381 : Nat)) :: (Value.int (104 : Int) (0 : Nat)) :: (Value.int (1 : Int) (0 : Nat)) :: (Value.int (0 : Int) (0 : Nat)) :: (Value.int (0 : Int) (0 : Nat)) :: (Value.int (3 : Int) (0 : Nat)) :: (Value.ref (161 : Nat)) :: (Value.bool Bool.true) :: (Value.int (181 : Int) (0 : Nat)) :: (Value.ref (162 : Nat)) :: Value.none :: (Value.ref (163 : Nat)) :: (Value.ref (164 : Nat)) :: (Value.ref (165 : Nat)) :: (Value.int (383 : Int) (0 : Nat)) :: (Value.int (104 : Int) (0 : Nat)) :: (Value.str (Str.ofString "/claim/cut.py") (384 : Nat)) :: []))) (List.toArray []))) ::
    (nat_lit 167, (Obj.mk (Value.type "function") (@none Nat) (Data.func (FuncData.mk (Str.ofString "is_onlyws") (Str.ofString "_Accumulator.is_onlyws") a167 (FuncBody.stmts l167) s167 (3 : Nat) [] Value.none Value.none Value.none (Value.str (Str.ofString "cpy313.email.header") (194 : Nat)) (@none Nat) (Value.ref (166 : Nat)) Value.none (0 : Nat))) (List.toArray []))) ::
    (nat_lit 168, (Obj.mk (Value.type "tuple") (@none Nat) (Data.seq (List.toArray [(Value.ref (102 : Nat))]) (0 : Nat)) (List.toArray []))) ::
    (nat_lit 174, (Obj.mk (Value.type "code") (@none Nat) (Data.fields (List.toArray ((Value.str (Str.ofString "part_count") (386 : Nat)) :: (Value.str (Str.ofString "_Accumulator.part_count") (387 : Nat)) :: (Value.str (Str.ofString "/claim/cut.py") (388 : Nat)) :: (Value.int (107 : Int) (0 : Nat)) :: (Value.int (1 : Int) (0 : Nat)) :: (Value.int (0 : Int) (0 : Nat)) :: (Value.int (0 : Int) (0 : Nat)) :: (Value.int (3 : Int) (0 : Nat)) :: (Value.ref (169 : Nat)) :: (Value.bool Bool.true) :: (Value.int (181 : Int) (0 : Nat)) :: (Value.ref (170 : Nat)) :: Value.none :: (Value.ref (171 : Nat)) :: (Value.ref (172 : Nat)) :: (Value.ref (173 : Nat)) :: (Value.int (391 : Int) (0 : Nat)) :: (Value.int (107 : Int) (0 : Nat)) :: (Value.str (Str.ofString "/claim/cut.py") (392 : Nat)) :: []))) (List.toArray []))) ::
    (nat_lit 175, (Obj.mk (Value.type "function") (@none Nat) (Data.func (FuncData.mk (Str.ofString "part_count") (Str.ofString "_Accumulator.part_count") a175 (FuncBody.stmts l175) s175 (3 : Nat) [((Str.ofString "__class__"), (102 : Nat))] Value.none Value.none Value.none (Value.str (Str.ofString "cpy313.email.header") (194 : Nat)) (@none Nat) (Value.ref (174 : Nat)) (Value.ref (168 : Nat)) (0 : Nat))) (List.toArray []))) ::
    (nat_lit 177, (Obj.mk (Value.type "dict") (@none Nat) (Data.dict (List.toArray ((DictEntry.mk (PyData.keyHash P (Str.ofString "__module__")) (Value.str (Str.ofString "__module__") (315 : Nat)) (Value.str (Str.ofString "cpy313.email.header") (194 : Nat))) :: (DictEntry.mk (PyData.keyHash P (Str.ofString "__firstlineno__")) (Value.str (Str.ofString "__firstlineno__") (319 : Nat)) (Value.int (73 : Int) (318 : Nat))) :: (DictEntry.mk (PyData.keyHash P (Str.ofString "__init__")) (Value.str (Str.ofString "__init__") (329 : Nat)) (Value.ref (115 : Nat))) :: (DictEntry.mk (PyData.keyHash P (Str.ofString "push")) (Value.str (Str.ofString "push") (338 : Nat)) (Value.ref (122 : Nat))) :: (DictEntry.mk (PyData.keyHash P (Str.ofString "pop_from")) (Value.str (Str.ofString "pop_from") (348 : Nat)) (Value.ref (130 : Nat))) :: (DictEntry.mk (PyData.keyHash P (Str.ofString "pop")) (Value.str (Str.ofString "pop") (356 : Nat)) (Value.ref (138 : Nat))) :: (DictEntry.mk (PyData.keyHash P (Str.ofString "__len__")) (Value.str (Str.ofString "__len__") (363 : Nat)) (Value.ref (145 : Nat))) :: (DictEntry.mk (PyData.keyHash P (Str.ofString "__str__")) (Value.str (Str.ofString "__str__") (370 : Nat)) (Value.ref (152 : Nat))) :: (DictEntry.mk (PyData.keyHash P (Str.ofString "reset")) (Value.str (Str.ofString "reset") (378 : Nat)) (Value.ref (160 : Nat))) :: (DictEntry.mk (PyData.keyHash P (Str.ofString "is_onlyws")) (Value.str (Str.ofString "is_onlyws") (385 : Nat)) (Value.ref (167 : Nat))) :: (DictEntry.mk (PyData.keyHash P (Str.ofString "part_count")) (Value.str (Str.ofString "part_count") (393 : Nat)) (Value.ref (175 : Nat))) :: (DictEntry.mk (PyData.keyHash P (Str.ofString "__static_attributes__")) (Value.str (Str.ofString "__static_attributes__") (395 : Nat)) (Value.ref (176 : Nat))) :: (DictEntry.mk (PyData.keyHash P (Str.ofString "__dict__")) (Value.str (Str.ofString "__dict__") (398 : Nat)) (Value.ref (179 : Nat))) :: (DictEntry.mk (PyData.keyHash P (Str.ofString "__weakref__")) (Value.str (Str.ofString "__weakref__") (400 : Nat)) (Value.ref (180 : Nat))) :: (DictEntry.mk (PyData.keyHash P (Str.ofString "__doc__")) (Value.str (Str.ofString "__doc__") (401 : Nat)) Value.none) :: [])) (5 : Nat)) (List.toArray []))) ::
    (nat_lit 178, (Obj.mk (Value.type "type") (@none Nat) (Data.cls (ClassData.mk (Str.ofString "_Accumulator") [(Value.type "list")] [(Value.ref (178 : Nat)), (Value.type "list"), (Value.type "object")] (177 : Nat) (Str.ofString "_Accumulator") Bool.true [] [] Bool.false none Bool.false)) (List.toArray ((some (Value.ref (99 : Nat))) :: none :: (some (Value.str (Str.ofString "_Accumulator") (308 : Nat))) :: (some (Value.str (Str.ofString "_Accumulator") (316 : Nat))) :: (some (Value.builtin "list.__new__")) :: (some (Value.bool Bool.true)) :: [])))) ::
    (nat_lit 188, (Obj.mk (Value.type "code") (@none Nat) (Data.fields (List.toArray ((Value.str (Str.ofString "heappush") (406 : Nat)) :: (Value.str (Str.ofString "heappush") (407 : Nat)) :: (Value.str (Str.ofString "/claim/cut.py") (408 : Nat)) :: (Value.int (110 : Int) (0 : Nat)) :: (Value.int (2 : Int) (0 : Nat)) :: (Value.int (0 : Int) (0 : Nat)) :: (Value.int (0 : Int) (0 : Nat)) :: (Value.int (3 : Int) (0 : Nat)) :: (Value.ref (183 : Nat)) :: (Value.bool Bool.true) :: (Value.int (181 : Int) (0 : Nat)) :: (Value.ref (184 : Nat)) :: Value.none :: (Value.ref (185 : Nat)) :: (Value.ref (186 : Nat)) :: (Value.ref (187 : Nat)) :: (Value.int (411 : Int) (0 : Nat)) :: (Value.int (110 : Int) (0 : Nat)) :: (Value.str (Str.ofString "/claim/cut.py") (412 : Nat)) :: []))) (List.toArray []))) ::
    (nat_lit 189, (Obj.mk (Value.type "function") (@none Nat) (Data.func (FuncData.mk (Str.ofString "heappush") (Str.ofString "heappush") a189 (FuncBody.stmts l189) s189 (3 : Nat) [] Value.none Value.none Value.none (Value.str (Str.ofString "cpy313.heapq") (404 : Nat)) (@none Nat) (Value.ref (188 : Nat)) Value.none (0 : Nat))) (List.toArray []))) ::
    (nat_lit 195, (Obj.mk (Value.type "code") (@none Nat) (Data.fields (List.toArray ((Value.str (Str.ofString "heappop") (414 : Nat)) :: (Value.str (Str.ofString "heappop") (415 : Nat)) :: (Value.str (Str.ofString "/claim/cut.py") (416 : Nat)) :: (Value.int (113 : Int) (0 : Nat)) :: (Value.int (1 : Int) (0 : Nat)) :: (Value.int (0 : Int) (0 : Nat)) :: (Value.int (0 : Int) (0 : Nat)) :: (Value.int (3 : Int) (0 : Nat)) :: (Value.ref (190 : Nat)) :: (Value.bool Bool.true) :: (Value.int (181 : Int) (0 : Nat)) :: (Value.ref (191 : Nat)) :: Value.none :: (Value.ref (192 : Nat)) :: (Value.ref (193 : Nat)) :: (Value.ref (194 : Nat)) :: (Value.int (420 : Int) (0 : Nat)) :: (Value.int (113 : Int) (0 : Nat)) :: (Value.str (Str.ofString "/claim/cut.py") (421 : Nat)) :: []))) (List.toArray []))) ::
    (nat_lit 196, (Obj.mk (Value.type "function") (@none Nat) (Data.func (FuncData.mk (Str.ofString "heappop") (Str.ofString "heappop") a196 (FuncBody.stmts l196) s196 (3 : Nat) [] Value.none Value.none Value.none (Value.str (Str.ofString "cpy313.heapq") (404 : Nat)) (@none Nat) (Value.ref (195 : Nat)) Value.none (0 : Nat))) (List.toArray []))) ::
    (nat_lit 202, (Obj.mk (Value.type "code") (@none Nat) (Data.fields (List.toArray ((Value.str (Str.ofString "_siftdown") (423 : Nat)) :: (Value.str (Str.ofString "_siftdown") (424 : Nat)) :: (Value.str (Str.ofString "/claim/cut.py") (425 : Nat)) :: (Value.int (121 : Int) (0 : Nat)) :: (Value.int (3 : Int) (0 : Nat)) :: (Value.int (0 : Int) (0 : Nat)) :: (Value.int (0 : Int) (0 : Nat)) :: (Value.int (3 : Int) (0 : Nat)) :: (Value.ref (197 : Nat)) :: (Value.bool Bool.true) :: (Value.int (181 : Int) (0 : Nat)) :: (Value.ref (198 : Nat)) :: Value.none :: (Value.ref (199 : Nat)) :: (Value.ref (200 : Nat)) :: (Value.ref (201 : Nat)) :: (Value.int (432 : Int) (0 : Nat)) :: (Value.int (121 : Int) (0 : Nat)) :: (Value.str (Str.ofString "/claim/cut.py") (433 : Nat)) :: []))) (List.toArray []))) ::
    (nat_lit 203, (Obj.mk (Value.type "function") (@none Nat) (Data.func (FuncData.mk (Str.ofString "_siftdown") (Str.ofString "_siftdown") a203 (FuncBody.stmts l203) s203 (3 : Nat) [] Value.none Value.none Value.none (Value.str (Str.ofString "cpy313.heapq") (404 : Nat)) (@none Nat) (Value.ref (202 : Nat)) Value.none (0 : Nat))) (List.toArray []))) ::
    (nat_lit 209, (Obj.mk (Value.type "code") (@none Nat) (Data.fields (List.toArray ((Value.str (Str.ofString "_siftup") (435 : Nat)) :: (Value.str (Str.ofString "_siftup") (436 : Nat)) :: (Value.str (Str.ofString "/claim/cut.py") (437 : Nat)) :: (Value.int (132 : Int) (0 : Nat)) :: (Value.int (2 : Int) (0 : Nat)) :: (Value.int (0 : Int) (0 : Nat)) :: (Value.int (0 : Int) (0 : Nat)) :: (Value.int (3 : Int) (0 : Nat)) :: (Value.ref (204 : Nat)) :: (Value.bool Bool.true) :: (Value.int (181 : Int) (0 : Nat)) :: (Value.ref (205 : Nat)) :: Value.none :: (Value.ref (206 : Nat)) :: (Value.ref (207 : Nat)) :: (Value.ref (208 : Nat)) :: (Value.int (445 : Int) (0 : Nat)) :: (Value.int (132 : Int) (0 : Nat)) :: (Value.str (Str.ofString "/claim/cut.py") (446 : Nat)) :: []))) (List.toArray []))) ::
    (nat_lit 210, (Obj.mk (Value.type "function") (@none Nat) (Data.func (FuncData.mk (Str.ofString "_siftup") (Str.ofString "_siftup") a210 (FuncBody.stmts l210) s210 (3 : Nat) [] Value.none Value.none Value.none (Value.str (Str.ofString "cpy313.heapq") (404 : Nat)) (@none Nat) (Value.ref (209 : Nat)) Value.none (0 : Nat))) (List.toArray []))) ::
    (nat_lit 282, (Obj.mk (Value.type "code") (@none Nat) (Data.fields (List.toArray ((Value.str (Str.ofString "fspath") (537 : Nat)) :: (Value.str (Str.ofString "fspath") (538 : Nat)) :: (Value.str (Str.ofString "/claim/cut.py") (539 : Nat)) :: (Value.int (177 : Int) (0 : Nat)) :: (Value.int (1 : Int) (0 : Nat)) :: (Value.int (0 : Int) (0 : Nat)) :: (Value.int (0 : Int) (0 : Nat)) :: (Value.int (3 : Int) (0 : Nat)) :: (Value.ref (277 : Nat)) :: (Value.bool Bool.true) :: (Value.int (181 : Int) (0 : Nat)) :: (Value.ref (278 : Nat)) :: Value.none :: (Value.ref (279 : Nat)) :: (Value.ref (280 : Nat)) :: (Value.ref (281 : Nat)) :: (Value.int (544 : Int) (0 : Nat)) :: (Value.int (177 : Int) (0 : Nat)) :: (Value.str (Str.ofString "/claim/cut.py") (545 : Nat)) :: []))) (List.toArray []))) ::
    (nat_lit 283, (Obj.mk (Value.type "function") (@none Nat) (Data.func (FuncData.mk (Str.ofString "fspath") (Str.ofString "fspath") a283 (FuncBody.stmts l283) s283 (3 : Nat) [] Value.none Value.none Value.none (Value.str (Str.ofString "os") (535 : Nat)) (@none Nat) (Value.ref (282 : Nat)) Value.none (0 : Nat))) (List.toArray []))) ::
    (nat_lit 296, (Obj.mk (Value.type "code") (@none Nat) (Data.fields (List.toArray ((Value.str (Str.ofString "_get_sep") (562 : Nat)) :: (Value.str (Str.ofString "_get_sep") (563 : Nat)) :: (Value.str (Str.ofString "/claim/cut.py") (564 : Nat)) :: (Value.int (206 : Int) (0 : Nat)) :: (Value.int (1 : Int) (0 : Nat)) :: (Value.int (0 : Int) (0 : Nat)) :: (Value.int (0 : Int) (0 : Nat)) :: (Value.int (3 : Int) (0 : Nat)) :: (Value.ref (291 : Nat)) :: (Value.bool Bool.true) :: (Value.int (181 : Int) (0 : Nat)) :: (Value.ref (292 : Nat)) :: Value.none :: (Value.ref (293 : Nat)) :: (Value.ref (294 : Nat)) :: (Value.ref (295 : Nat)) :: (Value.int (566 : Int) (0 : Nat)) :: (Value.int (206 : Int) (0 : Nat)) :: (Value.str (Str.ofString "/claim/cut.py") (567 : Nat)) :: []))) (List.toArray []))) ::
    (nat_lit 297, (Obj.mk (Value.type "function") (@none Nat) (Data.func (FuncData.mk (Str.ofString "_get_sep") (Str.ofString "_get_sep") a297 (FuncBody.stmts l297) s297 (3 : Nat) [] Value.none Value.none Value.none (Value.str (Str.ofString "cpy313.posixpath") (560 : Nat)) (@none Nat) (Value.ref (296 : Nat)) Value.none (0 : Nat))) (List.toArray []))) ::
    (nat_lit 303, (Obj.mk (Value.type "code") (@none Nat) (Data.fields (List.toArray ((Value.str (Str.ofString "join") (569 : Nat)) :: (Value.str (Str.ofString "join") (570 : Nat)) :: (Value.str (Str.ofString "/claim/cut.py") (571 : Nat)) :: (Value.int (211 : Int) (0 : Nat)) :: (Value.int (1 : Int) (0 : Nat)) :: (Value.int (0 : Int) (0 : Nat)) :: (Value.int (0 : Int) (0 : Nat)) :: (Value.int (7 : Int) (0 : Nat)) :: (Value.ref (298 : Nat)) :: (Value.bool Bool.true) :: (Value.int (181 : Int) (0 : Nat)) :: (Value.ref (299 : Nat)) :: Value.none :: (Value.ref (300 : Nat)) :: (Value.ref (301 : Nat)) :: (Value.ref (302 : Nat)) :: (Value.int (577 : Int) (0 : Nat)) :: (Value.int (211 : Int) (0 : Nat)) :: (Value.str (Str.ofString "/claim/cut.py") (578 : Nat)) :: []))) (List.toArray []))) ::
    (nat_lit 304, (Obj.mk (Value.type "function") (@none Nat) (Data.func (FuncData.mk (Str.ofString "join") (Str.ofString "join") a304 (FuncBody.stmts l304) s304 (3 : Nat) [] Value.none Value.none Value.none (Value.str (Str.ofString "cpy313.posixpath") (560 : Nat)) (@none Nat) (Value.ref (303 : Nat)) Value.none (0 : Nat))) (List.toArray []))) ::
    (nat_lit 310, (Obj.mk (Value.type "code") (@none Nat) (Data.fields (List.toArray ((Value.str (Str.ofString "split") (580 : Nat)) :: (Value.str (Str.ofString "split") (581 : Nat)) :: (Value.str (Str.ofString "/claim/cut.py") (582 : Nat)) :: (Value.int (228 : Int) (0 : Nat)) :: (Value.int (1 : Int) (0 : Nat)) :: (Value.int (0 : Int) (0 : Nat)) :: (Value.int (0 : Int) (0 : Nat)) :: (Value.int (3 : Int) (0 : Nat)) :: (Value.ref (305 : Nat)) :: (Value.bool Bool.true) :: (Value.int (181 : Int) (0 : Nat)) :: (Value.ref (306 : Nat)) :: Value.none :: (Value.ref (307 : Nat)) :: (Value.ref (308 : Nat)) :: (Value.ref (309 : Nat)) :: (Value.int (588 : Int) (0 : Nat)) :: (Value.int (228 : Int) (0 : Nat)) :: (Value.str (Str.ofString "/claim/cut.py") (589 : Nat)) :: []))) (List.toArray []))) ::
    (nat_lit 311, (Obj.mk (Value.type "function") (@none Nat) (Data.func (FuncData.mk (Str.ofString "split") (Str.ofString "split") a311 (FuncBody.stmts l311) s311 (3 : Nat) [] Value.none Value.none Value.none (Value.str (Str.ofString "cpy313.posixpath") (560 : Nat)) (@none Nat) (Value.ref (310 : Nat)) Value.none (0 : Nat))) (List.toArray []))) ::
    (nat_lit 317, (Obj.mk (Value.type "code") (@none Nat) (Data.fields (List.toArray ((Value.str (Str.ofString "splitroot") (591 : Nat)) :: (Value.str (Str.ofString "splitroot") (592 : Nat)) :: (Value.str (Str.ofString "/claim/cut.py") (593 : Nat)) :: (Value.int (236 : Int) (0 : Nat)) :: (Value.int (1 : Int) (0 : Nat)) :: (Value.int (0 : Int) (0 : Nat)) :: (Value.int (0 : Int) (0 : Nat)) :: (Value.int (3 : Int) (0 : Nat)) :: (Value.ref (312 : Nat)) :: (Value.bool Bool.true) :: (Value.int (181 : Int) (0 : Nat)) :: (Value.ref (313 : Nat)) :: Value.none :: (Value.ref (314 : Nat)) :: (Value.ref (315 : Nat)) :: (Value.ref (316 : Nat)) :: (Value.int (597 : Int) (0 : Nat)) :: (Value.int (236 : Int) (0 : Nat)) :: (Value.str (Str.ofString "/claim/cut.py") (598 : Nat)) :: []))) (List.toArray []))) ::
    (nat_lit 318, (Obj.mk (Value.type "function") (@none Nat) (Data.func (FuncData.mk (Str.ofString "splitroot") (Str.ofString "splitroot") a318 (FuncBody.stmts l318) s318 (3 : Nat) [] Value.none Value.none Value.none (Value.str (Str.ofString "cpy313.posixpath") (560 : Nat)) (@none Nat) (Value.ref (317 : Nat)) Value.none (0 : Nat))) (List.toArray []))) ::
    (nat_lit 324, (Obj.mk (Value.type "code") (@none Nat) (Data.fields (List.toArray ((Value.str (Str.ofString "normpath") (600 : Nat)) :: (Value.str (Str.ofString "normpath") (601 : Nat)) :: (Value.str (Str.ofString "/claim/cut.py") (602 : Nat)) :: (Value.int (250 : Int) (0 : Nat)) :: (Value.int (1 : Int) (0 : Nat)) :: (Value.int (0 : Int) (0 : Nat)) :: (Value.int (0 : Int) (0 : Nat)) :: (Value.int (3 : Int) (0 : Nat)) :: (Value.ref (319 : Nat)) :: (Value.bool Bool.true) :: (Value.int (181 : Int) (0 : Nat)) :: (Value.ref (320 : Nat)) :: Value.none :: (Value.ref (321 : Nat)) :: (Value.ref (322 : Nat)) :: (Value.ref (323 : Nat)) :: (Value.int (612 : Int) (0 : Nat)) :: (Value.int (250 : Int) (0 : Nat)) :: (Value.str (Str.ofString "/claim/cut.py") (613 : Nat)) :: []))) (List.toArray []))) ::
    (nat_lit 325, (Obj.mk (Value.type "function") (@none Nat) (Data.func (FuncData.mk (Str.ofString "normpath") (Str.ofString "normpath") a325 (FuncBody.stmts l325) s325 (3 : Nat) [] Value.none Value.none Value.none (Value.str (Str.ofString "cpy313.posixpath") (560 : Nat)) (@none Nat) (Value.ref (324 : Nat)) Value.none (0 : Nat))) (List.toArray []))) ::
    (nat_lit 331, (Obj.mk (Value.type "code") (@none Nat) (Data.fields (List.toArray ((Value.str (Str.ofString "_law_raw") (617 : Nat)) :: (Value.str (Str.ofString "_law_raw") (618 : Nat)) :: (Value.str (Str.ofString "/claim/cut.py") (619 : Nat)) :: (Value.int (276 : Int) (0 : Nat)) :: (Value.int (1 : Int) (0 : Nat)) :: (Value.int (0 : Int) (0 : Nat)) :: (Value.int (0 : Int) (0 : Nat)) :: (Value.int (3 : Int) (0 : Nat)) :: (Value.ref (326 : Nat)) :: (Value.bool Bool.true) :: (Value.int (181 : Int) (0 : Nat)) :: (Value.ref (327 : Nat)) :: Value.none :: (Value.ref (328 : Nat)) :: (Value.ref (329 : Nat)) :: (Value.ref (330 : Nat)) :: (Value.int (622 : Int) (0 : Nat)) :: (Value.int (276 : Int) (0 : Nat)) :: (Value.str (Str.ofString "/claim/cut.py") (623 : Nat)) :: []))) (List.toArray []))) ::
    (nat_lit 332, (Obj.mk (Value.type "function") (@none Nat) (Data.func (FuncData.mk (Str.ofString "_law_raw") (Str.ofString "_law_raw") a332 (FuncBody.stmts l332) s332 (3 : Nat) [] Value.none Value.none Value.none (Value.str (Str.ofString "law_ik0220_02") (615 : Nat)) (@none Nat) (Value.ref (331 : Nat)) Value.none (0 : Nat))) (List.toArray []))) ::
    (nat_lit 338, (Obj.mk (Value.type "code") (@none Nat) (Data.fields (List.toArray ((Value.str (Str.ofString "_law_names") (625 : Nat)) :: (Value.str (Str.ofString "_law_names") (626 : Nat)) :: (Value.str (Str.ofString "/claim/cut.py") (627 : Nat)) :: (Value.int (279 : Int) (0 : Nat)) :: (Value.int (1 : Int) (0 : Nat)) :: (Value.int (0 : Int) (0 : Nat)) :: (Value.int (0 : Int) (0 : Nat)) :: (Value.int (3 : Int) (0 : Nat)) :: (Value.ref (333 : Nat)) :: (Value.bool Bool.true) :: (Value.int (181 : Int) (0 : Nat)) :: (Value.ref (334 : Nat)) :: Value.none :: (Value.ref (335 : Nat)) :: (Value.ref (336 : Nat)) :: (Value.ref (337 : Nat)) :: (Value.int (632 : Int) (0 : Nat)) :: (Value.int (279 : Int) (0 : Nat)) :: (Value.str (Str.ofString "/claim/cut.py") (633 : Nat)) :: []))) (List.toArray []))) ::
    (nat_lit 339, (Obj.mk (Value.type "function") (@none Nat) (Data.func (FuncData.mk (Str.ofString "_law_names") (Str.ofString "_law_names") a339 (FuncBody.stmts l339) s339 (3 : Nat) [] Value.none Value.none Value.none (Value.str (Str.ofString "law_ik0220_02") (615 : Nat)) (@none Nat) (Value.ref (338 : Nat)) Value.none (0 : Nat))) (List.toArray []))) ::
    (nat_lit 343, (Obj.mk (Value.type "code") (@none Nat) (Data.fields (List.toArray ((Value.str (Str.ofString "_law_told") (635 : Nat)) :: (Value.str (Str.ofString "_law_told") (636 : Nat)) :: (Value.str (Str.ofString "/claim/cut.py") (637 : Nat)) :: (Value.int (290 : Int) (0 : Nat)) :: (Value.int (1 : Int) (0 : Nat)) :: (Value.int (0 : Int) (0 : Nat)) :: (Value.int (0 : Int) (0 : Nat)) :: (Value.int (3 : Int) (0 : Nat)) :: (Value.ref (340 : Nat)) :: (Value.bool Bool.true) :: (Value.int (181 : Int) (0 : Nat)) :: (Value.ref (341 : Nat)) :: Value.none :: Value.none :: Value.none :: (Value.ref (342 : Nat)) :: (Value.int (638 : Int) (0 : Nat)) :: (Value.int (290 : Int) (0 : Nat)) :: (Value.str (Str.ofString "/claim/cut.py") (639 : Nat)) :: []))) (List.toArray []))) ::
    (nat_lit 344, (Obj.mk (Value.type "function") (@none Nat) (Data.func (FuncData.mk (Str.ofString "_law_told") (Str.ofString "_law_told") a344 (FuncBody.stmts l344) s344 (3 : Nat) [] Value.none Value.none Value.none (Value.str (Str.ofString "law_ik0220_02") (615 : Nat)) (@none Nat) (Value.ref (343 : Nat)) Value.none (0 : Nat))) (List.toArray []))) ::
    (nat_lit 348, (Obj.mk (Value.type "code") (@none Nat) (Data.fields (List.toArray ((Value.str (Str.ofString "_law_due") (641 : Nat)) :: (Value.str (Str.ofString "_law_due") (642 : Nat)) :: (Value.str (Str.ofString "/claim/cut.py") (643 : Nat)) :: (Value.int (303 : Int) (0 : Nat)) :: (Value.int (1 : Int) (0 : Nat)) :: (Value.int (0 : Int) (0 : Nat)) :: (Value.int (0 : Int) (0 : Nat)) :: (Value.int (3 : Int) (0 : Nat)) :: (Value.ref (345 : Nat)) :: (Value.bool Bool.true) :: (Value.int (181 : Int) (0 : Nat)) :: (Value.ref (346 : Nat)) :: Value.none :: Value.none :: Value.none :: (Value.ref (347 : Nat)) :: (Value.int (644 : Int) (0 : Nat)) :: (Value.int (303 : Int) (0 : Nat)) :: (Value.str (Str.ofString "/claim/cut.py") (645 : Nat)) :: []))) (List.toArray []))) ::
    (nat_lit 349, (Obj.mk (Value.type "function") (@none Nat) (Data.func (FuncData.mk (Str.ofString "_law_due") (Str.ofString "_law_due") a349 (FuncBody.stmts l349) s349 (3 : Nat) [] Value.none Value.none Value.none (Value.str (Str.ofString "law_ik0220_02") (615 : Nat)) (@none Nat) (Value.ref (348 : Nat)) Value.none (0 : Nat))) (List.toArray []))) ::
    (nat_lit 355, (Obj.mk (Value.type "code") (@none Nat) (Data.fields (List.toArray ((Value.str (Str.ofString "_law_texts") (647 : Nat)) :: (Value.str (Str.ofString "_law_texts") (648 : Nat)) :: (Value.str (Str.ofString "/claim/cut.py") (649 : Nat)) :: (Value.int (314 : Int) (0 : Nat)) :: (Value.int (1 : Int) (0 : Nat)) :: (Value.int (0 : Int) (0 : Nat)) :: (Value.int (0 : Int) (0 : Nat)) :: (Value.int (3 : Int) (0 : Nat)) :: (Value.ref (350 : Nat)) :: (Value.bool Bool.true) :: (Value.int (181 : Int) (0 : Nat)) :: (Value.ref (351 : Nat)) :: Value.none :: (Value.ref (352 : Nat)) :: (Value.ref (353 : Nat)) :: (Value.ref (354 : Nat)) :: (Value.int (654 : Int) (0 : Nat)) :: (Value.int (314 : Int) (0 : Nat)) :: (Value.str (Str.ofString "/claim/cut.py") (655 : Nat)) :: []))) (List.toArray []))) ::
    (nat_lit 356, (Obj.mk (Value.type "function") (@none Nat) (Data.func (FuncData.mk (Str.ofString "_law_texts") (Str.ofString "_law_texts") a356 (FuncBody.stmts l356) s356 (3 : Nat) [] Value.none Value.none Value.none (Value.str (Str.ofString "law_ik0220_02") (615 : Nat)) (@none Nat) (Value.ref (355 : Nat)) Value.none (0 : Nat))) (List.toArray []))) ::
    (nat_lit 362, (Obj.mk (Value.type "code") (@none Nat) (Data.fields (List.toArray ((Value.str (Str.ofString "_law_written") (657 : Nat)) :: (Value.str (Str.ofString "_law_written") (658 : Nat)) :: (Value.str (Str.ofString "/claim/cut.py") (659 : Nat)) :: (Value.int (320 : Int) (0 : Nat)) :: (Value.int (3 : Int) (0 : Nat)) :: (Value.int (0 : Int) (0 : Nat)) :: (Value.int (0 : Int) (0 : Nat)) :: (Value.int (3 : Int) (0 : Nat)) :: (Value.ref (357 : Nat)) :: (Value.bool Bool.true) :: (Value.int (181 : Int) (0 : Nat)) :: (Value.ref (358 : Nat)) :: Value.none :: (Value.ref (359 : Nat)) :: (Value.ref (360 : Nat)) :: (Value.ref (361 : Nat)) :: (Value.int (665 : Int) (0 : Nat)) :: (Value.int (320 : Int) (0 : Nat)) :: (Value.str (Str.ofString "/claim/cut.py") (666 : Nat)) :: []))) (List.toArray []))) ::
    (nat_lit 363, (Obj.mk (Value.type "function") (@none Nat) (Data.func (FuncData.mk (Str.ofString "_law_written") (Str.ofString "_law_written") a363 (FuncBody.stmts l363) s363 (3 : Nat) [] Value.none Value.none Value.none (Value.str (Str.ofString "law_ik0220_02") (615 : Nat)) (@none Nat) (Value.ref (362 : Nat)) Value.none (0 : Nat))) (List.toArray []))) ::
    (nat_lit 367, (Obj.mk (Value.type "code") (@none Nat) (Data.fields (List.toArray ((Value.str (Str.ofString "_law_twin") (668 : Nat)) :: (Value.str (Str.ofString "_law_twin") (669 : Nat)) :: (Value.str (Str.ofString "/claim/cut.py") (670 : Nat)) :: (Value.int (325 : Int) (0 : Nat)) :: (Value.int (3 : Int) (0 : Nat)) :: (Value.int (0 : Int) (0 : Nat)) :: (Value.int (0 : Int) (0 : Nat)) :: (Value.int (3 : Int) (0 : Nat)) :: (Value.ref (364 : Nat)) :: (Value.bool Bool.true) :: (Value.int (181 : Int) (0 : Nat)) :: (Value.ref (365 : Nat)) :: Value.none :: Value.none :: Value.none :: (Value.ref (366 : Nat)) :: (Value.int (671 : Int) (0 : Nat)) :: (Value.int (325 : Int) (0 : Nat)) :: (Value.str (Str.ofString "/claim/cut.py") (672 : Nat)) :: []))) (List.toArray []))) ::
    (nat_lit 368, (Obj.mk (Value.type "function") (@none Nat) (Data.func (FuncData.mk (Str.ofString "_law_twin") (Str.ofString "_law_twin") a368 (FuncBody.stmts l368) s368 (3 : Nat) [] Value.none Value.none Value.none (Value.str (Str.ofString "law_ik0220_02") (615 : Nat)) (@none Nat) (Value.ref (367 : Nat)) Value.none (0 : Nat))) (List.toArray []))) ::
    (nat_lit 372, (Obj.mk (Value.type "code") (@none Nat) (Data.fields (List.toArray ((Value.str (Str.ofString "law") (674 : Nat)) :: (Value.str (Str.ofString "law") (675 : Nat)) :: (Value.str (Str.ofString "/claim/cut.py") (676 : Nat)) :: (Value.int (339 : Int) (0 : Nat)) :: (Value.int (1 : Int) (0 : Nat)) :: (Value.int (0 : Int) (0 : Nat)) :: (Value.int (0 : Int) (0 : Nat)) :: (Value.int (3 : Int) (0 : Nat)) :: (Value.ref (369 : Nat)) :: (Value.bool Bool.true) :: (Value.int (181 : Int) (0 : Nat)) :: (Value.ref (370 : Nat)) :: Value.none :: Value.none :: Value.none :: (Value.ref (371 : Nat)) :: (Value.int (677 : Int) (0 : Nat)) :: (Value.int (339 : Int) (0 : Nat)) :: (Value.str (Str.ofString "/claim/cut.py") (678 : Nat)) :: []))) (List.toArray []))) ::
    (nat_lit 373, (Obj.mk (Value.type "function") (@none Nat) (Data.func (FuncData.mk (Str.ofString "law") (Str.ofString "law") a373 (FuncBody.stmts l373) s373 (3 : Nat) [] Value.none Value.none Value.none (Value.str (Str.ofString "law_ik0220_02") (615 : Nat)) (@none Nat) (Value.ref (372 : Nat)) Value.none (0 : Nat))) (List.toArray []))) :: [] : Frag)) _ _ _ _ _ _ _ _ _ _ _ _ _ _ _ _ _ _ _ _ _ _ _ _ _ _ _ _ _ _ _ _ _ _ _ _ _ _ _ _ _ _ _ _ _ _ _ _ _ _ _ _ _ _ _ _ _ _ _ _ _ _ _ _ _ _ _ _ _ _ _ _ _ _ _ _ _ _ _ _ _ _ _ _ _ _ _ _ _ _ _ _ _ _ _ _ _ _ _ _ _ _ _ _ _ _ _ _ _ _ _ _ _ _ _ _ _ _ _ _ _ _ _ _ _ _ _ _ _ _ _ _ _ _ _ _ _ _ _ _ _ _ _ _ _ _ _ _ _ _ _ _ _ _ _ _ _ _ _ _ _ _ _ _ _ _ _ _ _ _ _ _ _ _ _ _ _ _ _ _ _ _ _ _ _ _
  all_goals try (show _ = _; conv => rhs; whnf)
  all_goals try exact rfl
end Mine
namespace Mine
noncomputable abbrev rowR : OpenRow := PySem.Challenge.rw_ik0220_02.row
noncomputable abbrev vw : Program := view rowR.prog [36]
noncomputable abbrev LS1 : List Str := [Str.ofString "_wall", Str.ofString "NL", Str.ofString "EMPTYSTRING", Str.ofString "_ValueFormatter", Str.ofString "_Accumulator", Str.ofString "heappush", Str.ofString "heappop", Str.ofString "_siftdown", Str.ofString "_siftup", Str.ofString "_plain_name", Str.ofString "ABCMeta", Str.ofString "_ABCLike", Str.ofString "_abc_plain_meta", Str.ofString "fspath", Str.ofString "_check_arg_types", Str.ofString "_get_sep", Str.ofString "join", Str.ofString "split", Str.ofString "splitroot", Str.ofString "normpath", Str.ofString "_law_raw", Str.ofString "_law_names", Str.ofString "_law_told", Str.ofString "_law_due", Str.ofString "_law_texts", Str.ofString "_law_written", Str.ofString "_law_twin"]
noncomputable abbrev HK : Hook := kmHook heapK [2, 3, 34, 35, 41, 42, 55, 56, 90, 91, 93, 94, 102, 107, 108, 114, 115, 121, 122, 123, 129, 130, 131, 137, 138, 144, 145, 151, 152, 153, 159, 160, 166, 167, 168, 174, 175, 177, 178, 188, 189, 195, 196, 202, 203, 209, 210, 282, 283, 296, 297, 303, 304, 310, 311, 317, 318, 324, 325, 331, 332, 338, 339, 343, 344, 348, 349, 355, 356, 362, 363, 367, 368, 372, 373] (fun _ => by kernel_rfl) [140, 147]
theorem said1 : PySem.Challenge.rw_ik0220_02.wellSaid = true := by kernel_rfl
theorem left1 : LeftO rowR.prog vw LS1 (fun s => xlAt vw [] s && recOk (RowW.records rowR.toRowW) s) (Hook.obs HK) (Hook.val HK) 6000 := by
  intro w
  kernel_rfl
end Mine
namespace Mine
noncomputable abbrev amb (dp un : Nat) (gd : Option (List Code)) (fr : List Env) : Around := { handled := none, depth := dp, frames := some fr, guards := gd, units := un }
theorem no_mem {α : Type} {a : α} {p : Prop} (h : a ∈ ([] : List α)) : p := (List.not_mem_nil h).elim
noncomputable abbrev FF : Value → Shared → Prop := fun _ _ => False
noncomputable def Keep (D : List Addr) (h h' : Heap) : Prop := ∀ b o, b ∉ D → h.get? b = some o → h'.get? b = some o
theorem Keep.refl {D : List Addr} {h : Heap} : Keep D h h := fun _ _ _ e => e
theorem Keep.trans {D : List Addr} {h h' h'' : Heap} (x : Keep D h h') (y : Keep D h' h'') : Keep D h h'' := fun b o hb e => y b o hb (x b o hb e)
theorem Keep.mono {D D' : List Addr} {h h' : Heap} (x : Keep D h h') (s : ∀ a ∈ D, a ∈ D') : Keep D' h h' := fun b o hb e => x b o (fun q => hb (s _ q)) e
theorem keep_of {D : List (Addr × Obj)} {ys : List Addr} {h g h' : Heap} (hD : ∀ q ∈ D, h.get? q.1 = some q.2) (KP : Keep (D.map Prod.fst) h g) (kg : ∀ b o, g.get? b = some o → h'.get? b = some o)
    (hs : ∀ q ∈ D, q.1 ∉ ys → h'.get? q.1 = some q.2) : Keep ys h h' := fun b o hb e => by
  by_cases hm : b ∈ D.map Prod.fst
  · obtain ⟨q, hq, rfl⟩ := List.mem_map.mp hm
    rw [hD q hq] at e; cases e
    exact hs q hq hb
  · exact kg b o (KP b o hm e)
theorem Keep.nil {h h' : Heap} (k : Keep [] h h') : ∀ b o, h.get? b = some o → h'.get? b = some o := fun b o e => k b o List.not_mem_nil e
theorem keep2 {c d : Addr} {oc od : Obj} {ys : List Addr} {h g h' : Heap} (hc : h.get? c = some oc) (hd : h.get? d = some od) (KP : Keep (List.map Prod.fst [(c, oc), (d, od)]) h g) (kg : ∀ b o, g.get? b = some o → h'.get? b = some o)
    (h1 : c ∉ ys → h'.get? c = some oc) (h2 : d ∉ ys → h'.get? d = some od) : Keep ys h h' :=
  keep_of (D := [(c, oc), (d, od)]) (fun q hq => by rcases List.mem_cons.mp hq with rfl | hq; exact hc; rw [List.mem_singleton.mp hq]; exact hd) KP kg fun q hq hn => by
    rcases List.mem_cons.mp hq with rfl | hq
    · exact h1 hn
    · rw [List.mem_singleton.mp hq] at hn ⊢; exact h2 hn
theorem snoc_of {α : Type} {vs : List α} (h : vs ≠ []) : ∃ l v, vs = l ++ [v] := ⟨vs.dropLast, vs.getLast h, (List.dropLast_concat_getLast h).symm⟩
section
variable {g h h' : Heap} {L : Addr} {m : Str → Option Value} {news : List (Addr × Obj)} {D : List Addr}
theorem Fr.kept (F : Fr g L h m) (k : Keep D h h') (hD : ∀ a ∈ D, g.get? a = none) (hL : L ∉ D) : Fr g L h' m := by
  obtain ⟨oL, es, ep, hl, r⟩ := F.ns
  exact ⟨⟨oL, es, ep, k L oL hL hl, r⟩, fun b o e => k b o (fun q => by rw [hD b q] at e; cases e) (F.keep b o e), F.above⟩
theorem News.kept (N : News g L h news) (k : Keep D h h') (off : ∀ p ∈ news, p.1 ∉ D) : News g L h' news :=
  fun p hp => ⟨k _ _ (off p hp) (N p hp).1, (N p hp).2⟩
theorem News.cons {a : Addr} {o : Obj} (N : News g L h news) (ho : h.get? a = some o) (hg : g.get? a = none) (hL : a ≠ L) : News g L h ((a, o) :: news) :=
  fun p hp => by
    rcases List.mem_cons.mp hp with rfl | hp
    · exact ⟨ho, hL, hg⟩
    · exact N p hp
theorem News.sub {news' : List (Addr × Obj)} (N : News g L h news) (s : ∀ p ∈ news', p ∈ news) : News g L h news' := fun p hp => N p (s p hp)
end

section
variable {prog : Program} {w : World} {K : Frag} {p : Program} {loose : List Str} {mean : ExcName → Option Value} {mg mb : Str → Option Value}
theorem enterF {base : Heap} {dp un : Nat} {gd : Option (List Code)} {fr : List Env} {s : Shared} {R : Result → Shared → Prop} {name qual : Str} {params : Arguments} {body : List Stmt} {scope : Scope} {dV kV doc pm cdv ct oc : Value} {an od : Option Addr} {osl : Array (Option Value)} {f : Addr} {args : Args} {binds : List (Str × Value)} (rb : List (Str × Value))
    (D : List (Addr × Obj)) (X : K.In base) (T : Top p loose mean mg mb base) (hS : base.StaysIn s.heap) (hD : ∀ q ∈ D, s.heap.get? q.1 = some q.2 ∧ base.get? q.1 = none)
    (ho : K.lookup f = some ⟨oc, od, .func (fnOf name qual params body scope dV kV doc pm an cdv ct), osl⟩) (hcd : codeIn K cdv qual = true) (hroom : dp < recursionLimit)
    (hbind : BindsTo s (fnOf name qual params body scope dV kV doc pm an cdv ct) args binds) (hloc : ∀ y ∈ binds, scope.names.lookup y.1 = some .local) (hrb : binds.reverse = rb)
    (h : ∀ g L h₁ fr' tk, Fr g L h₁ (fun y => rb.lookup y) → News g L h₁ D → K.In g → Top p loose mean mg mb g → Keep (D.map Prod.fst) s.heap g → (∀ b o, s.heap.get? b = some o → b < L) →
      wpAny (model prog w) (amb (dp + 1) (un + 3) gd fr') (execs body (envOf qual scope L f cdv)) (fun fl s' => R (.ok (.ret (match fl with | .ret v => v | _ => .none))) s') FF { s with heap := h₁, toks := tk })
    (hco : scope.isCoroutine = false) (hgen : scope.isGenerator = false) (hk : scope.kind = .function)
    (hcell : ∀ x ∈ scope.names, x.2 ≠ .cell) : codeAny (model prog w) (amb dp un gd fr) (.call (.ref f) args) R s := by
  have XS := X.keeps hS
  refine codeAny_call_def (fd := fnOf name qual params body scope dV kV doc pm an cdv ct) (body := body) (binds := binds) hroom (XS _ _ ho) rfl (T.nolimit.keeps hS) (codeRec_of XS hcd) rfl hbind hcell hloc (fun h₁ hns hk₁ => ?_) hco hgen hk
  have st : base.StaysIn (hideAll s.heap (D.map Prod.fst)) := fun b o e => hideAll_get _ (hS b o e) fun q => by
    obtain ⟨q', hq, rfl⟩ := List.mem_map.mp q
    rw [(hD q' hq).2] at e; cases e
  exact wpAny_mono (h (hideAll s.heap (D.map Prod.fst)) s.heap.objs.size h₁ _ _
    ⟨hrb ▸ hns, fun b o e => hk₁ b o (of_hideAll _ e), Nat.le_of_eq (hideAll_size _ _)⟩
    (fun q hq => ⟨hk₁ _ _ (hD q hq).1, Nat.ne_of_lt (Heap.lt_size (hD q hq).1), hideAll_none _ (List.mem_map_of_mem (f := Prod.fst) hq)⟩) (X.keeps st) (T.keeps st) (fun b o hb e => hideAll_get _ e hb) (fun b o e => Heap.lt_size e)) (fun _ _ x => x) fun _ _ x => x.elim
end

section
variable {prog : Program} {w : World} {A : Around} {s : Shared} {env : Env} {test : PySem.Expr} {body orelse : List Stmt} {Q : Flow → Shared → Prop}
theorem while_inv {pos : Pos} (I : Nat → Shared → Prop) (n : Nat) (h0 : I n s)
    (turn : ∀ n s, I n s → wpAny (model prog w) A (isTrue test env (eval test env)) (fun b s₂ => WhlIf b
      (wpAny (model prog w) A (execs body env) (fun f s₃ => match f with | .next => ∃ k, k < n ∧ I k s₃ | .cont => ∃ k, k < n ∧ I k s₃ | .brk => Q .next s₃ | .ret v => Q (.ret v) s₃) FF s₂)
      (wpAny (model prog w) A (execs orelse env) Q FF s₂)) FF s) :
    wpAny (model prog w) A (exec (.While test body orelse pos) env) Q FF s := by
  refine whl_start 0 (?_ : WhlRest prog w A FF env test body orelse Q 0 s)
  have all : ∀ n s, I n s → WhlRest prog w A FF env test body orelse Q 0 s := by
    intro n
    induction n using Nat.strongRecOn with
    | ind n ih =>
      intro s hI
      have base := whl_turn (prog := prog) (w := w) (A := A) (env := env) (test := test) (body := body) (orelse := orelse) (Q := Q) (E := FF) (s := s) (k := 0) PassesOwn.never
      refine base (wpAny_mono (turn n s hI) (fun b s₂ h₂ => ?_) fun _ _ x => x)
      cases b with
      | false => exact h₂
      | true =>
        refine WhlIf.yes rfl ?_
        have h₃ : wpAny (model prog w) A (execs body env) _ FF s₂ := h₂
        refine wpAny_mono h₃ (fun f s₃ h₄ => ?_) fun _ _ x => x
        cases f with
        | next => obtain ⟨k, hk, hI⟩ := h₄; exact ih k hk s₃ hI
        | cont => obtain ⟨k, hk, hI⟩ := h₄; exact ih k hk s₃ hI
        | brk => exact h₄
        | ret v => exact h₄
  exact all n s h0
end
end Mine
namespace Mine
noncomputable def KF (kn : List (Str × Value)) (u : Str → Option Value) : Str → Option Value := fun y => match kn.lookup y with
  | some v => some v
  | none => u y
noncomputable def KFs (m : Str → Option Value) : List (Str × Value) → Prop
  | [] => True
  | p :: r => m p.1 = some p.2 ∧ KFs m r
theorem KFs.mem {m : Str → Option Value} {y : Str} {v : Value} : ∀ {kn : List (Str × Value)}, KFs m kn → kn.lookup y = some v → m y = some v
  | [], _, h => by cases h
  | (x, w) :: r, k, h => by
    rw [List.lookup_cons] at h
    by_cases e : (y == x) = true
    · rw [e] at h
      have e' := eq_of_beq e
      simp only [Option.some.injEq] at h
      subst h; subst e'
      exact k.1
    · have e' : (y == x) = false := by simpa using e
      rw [e'] at h
      exact KFs.mem k.2 h
theorem KF_of {m : Str → Option Value} {kn : List (Str × Value)} (k : KFs m kn) : KF kn m = m := by
  funext y
  unfold KF
  cases h : kn.lookup y with
  | none => rfl
  | some v => exact (k.mem h).symm
theorem toKF {g h : Heap} {L : Addr} {m : Str → Option Value} (kn : List (Str × Value)) (F : Fr g L h m) (k : KFs m kn) : Fr g L h (KF kn m) := by
  rw [KF_of k]; exact F
end Mine
namespace Mine
section
variable {prog : Program} {w : World} {A : Around} {s : Shared} {env : Env} {test : PySem.Expr} {body : List Stmt} {Q : Flow → Shared → Prop}
noncomputable def WhlP (I : Nat → Shared → Prop) (D : Shared → Prop) (Q : Flow → Shared → Prop) (n : Nat) (f : Flow) (s : Shared) : Prop := match f with
  | .next => ∃ k, k < n ∧ I k s
  | .cont => ∃ k, k < n ∧ I k s
  | .brk => D s
  | .ret v => Q (.ret v) s
theorem WhlP.cont {I : Nat → Shared → Prop} {D : Shared → Prop} {n : Nat} (k : Nat) (hk : k < n) (h : I k s) : WhlP I D Q n .cont s := ⟨k, hk, h⟩
theorem WhlP.next {I : Nat → Shared → Prop} {D : Shared → Prop} {n : Nat} (k : Nat) (hk : k < n) (h : I k s) : WhlP I D Q n .next s := ⟨k, hk, h⟩
theorem WhlP.brk {I : Nat → Shared → Prop} {D : Shared → Prop} {n : Nat} (h : D s) : WhlP I D Q n .brk s := h
theorem while_D {pos : Pos} (I : Nat → Shared → Prop) (D : Shared → Prop) (n : Nat) (h0 : I n s)
    (turn : ∀ n s, I n s → wpAny (model prog w) A (isTrue test env (eval test env)) (fun b s₂ => WhlIf b (wpAny (model prog w) A (execs body env) (WhlP I D Q n) FF s₂) (D s₂)) FF s)
    (fin : ∀ s', D s' → Q .next s') :
    wpAny (model prog w) A (exec (.While test body [] pos) env) Q FF s := by
  refine while_inv I n h0 fun n s hI => wpAny_mono (turn n s hI) (fun b s₂ h₂ => ?_) fun _ _ x => x
  cases b with
  | false => exact WhlIf.no rfl (wpAny_execs_nil (fin _ h₂))
  | true =>
    refine WhlIf.yes rfl ?_
    have h₃ : wpAny (model prog w) A (execs body env) (WhlP I D Q n) FF s₂ := h₂
    refine wpAny_mono h₃ (fun f s₃ h₄ => ?_) fun _ _ x => x
    cases f with
    | next => exact h₄
    | cont => exact h₄
    | brk => exact fin _ h₄
    | ret v => exact h₄
end
end Mine
namespace Mine
inductive Pv where
  | i (n : Int)
  | s (x : Str)
  deriving DecidableEq
inductive IsPv : Value → Pv → Prop
  | i (n : Int) (t : Tok) : IsPv (.int n t) (.i n)
  | s (x : Str) (t : Tok) : IsPv (.str x t) (.s x)
inductive PvsAre : List Value → List Pv → Prop
  | nil : PvsAre [] []
  | cons {v : Value} {d : Pv} {vs : List Value} {ds : List Pv} : IsPv v d → PvsAre vs ds → PvsAre (v :: vs) (d :: ds)
noncomputable def Pv.lt : Pv → Pv → Bool
  | .i a, .i b => decide (a < b)
  | .s x, .s y => decide (x.cps.toList < y.cps.toList)
  | _, _ => false
noncomputable def Pv.isI : Pv → Bool
  | .i _ => true
  | .s _ => false
noncomputable def lexLt : List Pv → List Pv → Bool
  | x :: xs, y :: ys => if x = y then lexLt xs ys else Pv.lt x y
  | [], _ :: _ => true
  | _, [] => false
noncomputable abbrev tupOf (vs : List Value) (n : Nat) : Obj := { cls := .type "tuple", data := .seq vs.toArray n }
noncomputable def TupAt (h : Heap) (v : Value) (d : List Pv) : Prop := ∃ a vs n, v = .ref a ∧ h.get? a = some (tupOf vs n) ∧ PvsAre vs d
theorem TupAt.keeps {h h' : Heap} {v : Value} {d : List Pv} (x : TupAt h v d) (k : ∀ b o, h.get? b = some o → h'.get? b = some o) : TupAt h' v d := by
  obtain ⟨a, vs, n, e, g, p⟩ := x
  exact ⟨a, vs, n, e, k _ _ g, p⟩
theorem TupAt.kept {h h' : Heap} {v : Value} {d : List Pv} {D : List Addr} (x : TupAt h v d) (k : Keep D h h') (hD : ∀ a ∈ D, ∀ o, h.get? a = some o → o.cls ≠ .type "tuple") : TupAt h' v d := by
  obtain ⟨a, vs, n, e, g, p⟩ := x
  exact ⟨a, vs, n, e, k _ _ (fun q => hD a q _ g rfl) g, p⟩
theorem PvsAre.length {vs : List Value} {ds : List Pv} (h : PvsAre vs ds) : vs.length = ds.length := by
  induction h with
  | nil => rfl
  | cons _ _ ih => simp [ih]
theorem IsPv.inj {v : Value} {d e : Pv} (h : IsPv v d) (k : IsPv v e) : d = e := by cases h <;> cases k <;> rfl
theorem PvsAre.inj {vs : List Value} {ds es : List Pv} (h : PvsAre vs ds) (k : PvsAre vs es) : ds = es := by
  induction h generalizing es with
  | nil => cases k; rfl
  | cons h1 _ ih => cases k with
    | cons k1 k2 => rw [h1.inj k1, ih k2]
theorem pvs_i {us : List Value} {n : Int} {ds : List Pv} (h : PvsAre us (.i n :: ds)) : ∃ t r, us = .int n t :: r ∧ PvsAre r ds := by
  cases h with
  | cons h0 h => cases h0; exact ⟨_, _, rfl, h⟩
theorem pvs_s {us : List Value} {x : Str} {ds : List Pv} (h : PvsAre us (.s x :: ds)) : ∃ t r, us = .str x t :: r ∧ PvsAre r ds := by
  cases h with
  | cons h0 h => cases h0; exact ⟨_, _, rfl, h⟩
theorem pvs_nil {us : List Value} (h : PvsAre us []) : us = [] := by
  cases h
  rfl
inductive AllAt (P : Value → List Pv → Prop) : List Value → List (List Pv) → Prop
  | nil : AllAt P [] []
  | cons {v : Value} {d : List Pv} {vs : List Value} {ds : List (List Pv)} : P v d → AllAt P vs ds → AllAt P (v :: vs) (d :: ds)
section
variable {P P' : Value → List Pv → Prop} {vs ws : List Value} {ds es : List (List Pv)}
theorem AllAt.mono (h : AllAt P vs ds) (k : ∀ v d, P v d → P' v d) : AllAt P' vs ds := by
  induction h with
  | nil => exact .nil
  | cons h1 _ ih => exact .cons (k _ _ h1) ih
theorem AllAt.length (h : AllAt P vs ds) : vs.length = ds.length := by
  induction h with
  | nil => rfl
  | cons _ _ ih => simp [ih]
theorem AllAt.get (h : AllAt P vs ds) : ∀ {i : Nat} (hi : i < ds.length), ∃ v, vs[i]? = some v ∧ P v (ds[i]'hi) := by
  induction h with
  | nil => intro i hi; exact absurd hi (Nat.not_lt_zero _)
  | cons h1 _ ih =>
    intro i hi
    cases i with
    | zero => exact ⟨_, rfl, h1⟩
    | succ i => exact ih (Nat.lt_of_succ_lt_succ hi)
theorem AllAt.getV (h : AllAt P vs ds) : ∀ {i : Nat} {v : Value}, vs[i]? = some v → ∃ d, ds[i]? = some d ∧ P v d := by
  induction h with
  | nil => intro i v hi; simp at hi
  | cons h1 _ ih =>
    intro i v hi
    cases i with
    | zero => simp at hi; subst hi; exact ⟨_, rfl, h1⟩
    | succ i => exact ih (by simpa using hi)
theorem AllAt.set (h : AllAt P vs ds) {v : Value} {d : List Pv} (hv : P v d) : ∀ i : Nat, AllAt P (vs.set i v) (ds.set i d) := by
  induction h with
  | nil => intro i; exact .nil
  | cons h1 h2 ih =>
    intro i
    cases i with
    | zero => exact .cons hv h2
    | succ i => exact .cons h1 (ih i)
theorem AllAt.append (h : AllAt P vs ds) (k : AllAt P ws es) : AllAt P (vs ++ ws) (ds ++ es) := by
  induction h with
  | nil => exact k
  | cons h1 _ ih => exact .cons h1 ih
theorem AllAt.dropLast (h : AllAt P vs ds) : AllAt P vs.dropLast ds.dropLast := by
  induction h with
  | nil => exact .nil
  | cons h1 h2 ih =>
    cases h2 with
    | nil => exact .nil
    | cons a b => exact .cons h1 ih
end

section
variable {prog : Program} {w : World} {A : Around} {E : Value → Shared → Prop} {s : Shared}
theorem eqBool_pv {u v : Value} {x y : Pv} {Q : Bool → Shared → Prop} (hx : IsPv u x) (hy : IsPv v y) (hk : x.isI = y.isI) (h : Q (decide (x = y)) s) : wpAny (model prog w) A (eqBool u v) Q E s := by
  cases hx with
  | i a t => cases hy with
    | i b t' =>
      refine wpAny_eqBool_int ?_
      have e : (a == b) = decide (Pv.i a = Pv.i b) := by
        by_cases q : a = b <;> simp [q]
      rw [e]; exact h
    | s b t' => cases hk
  | s a t => cases hy with
    | i b t' => cases hk
    | s b t' =>
      refine wpAny_eqBool_str ?_
      have e : decide (a = b) = decide (Pv.s a = Pv.s b) := by
        by_cases q : a = b <;> simp [q]
      rw [e]; exact h
theorem lt_pv {u v : Value} {x y : Pv} {Q : Value → Shared → Prop} (hx : IsPv u x) (hy : IsPv v y) (hk : x.isI = y.isI) (h : Q (.bool (Pv.lt x y)) s) : wpAny (model prog w) A (richCompare .Lt u v) Q E s := by
  cases hx with
  | i a t => cases hy with
    | i b t' => exact PySem.wpAny_lt_int h
    | s b t' => cases hk
  | s a t => cases hy with
    | i b t' => cases hk
    | s b t' => exact PySem.P.lt_str h

theorem tuple_lt_tree {xs ys : List Pv} {us vs : List Value} {a b : Addr} {na nb : Nat} {P : Fin → Shared → Prop} (ha : s.heap.get? a = some (tupOf us na)) (hb : s.heap.get? b = some (tupOf vs nb))
    (hx : PvsAre us xs) (hy : PvsAre vs ys) (hk : xs.map Pv.isI = ys.map Pv.isI) (h : P (.done (.ret (.bool (lexLt xs ys)))) s) :
    wpAny (model prog w) A (Builtin.«tuple.__lt__» ⟨[.ref a, .ref b], []⟩) P E s := by
  have hTb : s.TypeIs (.ref b) "tuple" := ⟨_, hb, rfl⟩
  show wpAny _ _ (isInstance (.ref b) (.type "tuple") >>= _) _ _ s
  refine wpAny_bind (wpAny_isInstance hTb isSubtype_tuple_tuple ?_)
  simp -iota only [Bool.not_true, Bool.false_eq_true, if_false]
  refine wpAny_bind (wpAny_tupleItemsOf ha rfl ?_)
  refine wpAny_bind (wpAny_tupleItemsOf hb rfl ?_)
  refine wpAny_bind ?_
  refine wpAny_forIn_list _
    (fun rest r s' => r.1 = none ∧ s' = s ∧ ∃ x' y' xs' ys', rest = List.zip xs' ys' ∧ PvsAre xs' x' ∧ PvsAre ys' y' ∧ x'.map Pv.isI = y'.map Pv.isI ∧ lexLt x' y' = lexLt xs ys ∧ ((decide (us.length < vs.length)) = true → lexLt x' y' = lexLt xs ys) ∧ (us.length = vs.length))
    _ ?_ ?_ _ _ ⟨rfl, rfl, xs, ys, us, vs, by simp, hx, hy, hk, rfl, fun _ => rfl, by rw [hx.length, hy.length]; simpa using congrArg List.length hk⟩
  · rintro ⟨u, v⟩ rest r s' ⟨hr, rfl, x', y', xs', ys', hz, hx', hy', hk', hdec, _, hlen⟩
    cases hx' with
    | nil => simp at hz
    | @cons u' k1 xs'' x'' h1 hx'' =>
      cases hy' with
      | nil => simp at hz
      | @cons v' k2 ys'' y'' h2 hy'' =>
        simp -iota only [List.zip_cons_cons, List.cons.injEq, Prod.mk.injEq] at hz
        obtain ⟨⟨rfl, rfl⟩, rfl⟩ := hz
        simp -iota only [List.map_cons, List.cons.injEq] at hk'
        refine wpAny_bind (eqBool_pv h1 h2 hk'.1 ?_)
        by_cases hkk : k1 = k2
        · subst hkk
          rw [decide_eq_true rfl]
          simp -iota only [Bool.not_true, Bool.false_eq_true, if_false]
          refine wpAny_pure ⟨rfl, rfl, x'', y'', xs'', ys'', rfl, hx'', hy'', hk'.2, ?_, fun _ => ?_, hlen⟩
          · rw [← hdec]; simp [lexLt]
          · rw [← hdec]; simp [lexLt]
        · rw [decide_eq_false hkk]
          simp -iota only [Bool.not_false, if_true]
          have hf : lexLt xs ys = Pv.lt k1 k2 := by rw [← hdec]; simp [lexLt, hkk]
          rw [hf] at h
          exact wpAny_bind (wpAny_rule (wpAny_bind (lt_pv h1 h2 hk'.1 (wpAny_bind (wpAny_pure (wpAny_pure (wpAny_pure h)))))))
  · rintro ⟨r1, r2⟩ s' ⟨hr, rfl, x', y', xs', ys', hz, hx', hy', hk', hdec, _, hlen⟩
    simp only at hr
    subst hr
    refine wpAny_pure ?_
    show P (.done (.ret (.bool (decide (us.toArray.size < vs.toArray.size))))) s'
    have e : decide (us.toArray.size < vs.toArray.size) = lexLt xs ys := by
      rw [← hdec]
      have hf : decide (us.toArray.size < vs.toArray.size) = false := by simp [hlen]
      rw [hf]
      cases hx' with
      | nil =>
        cases hy' with
        | nil => rfl
        | cons _ _ => simp at hk'
      | cons _ _ =>
        cases hy' with
        | nil => simp at hk'
        | cons _ _ => simp at hz
    rw [e]; exact h

theorem cmp_tup {u v : Value} {xs ys : List Pv} {Q : Value → Shared → Prop} (hx : TupAt s.heap u xs) (hy : TupAt s.heap v ys) (hk : xs.map Pv.isI = ys.map Pv.isI) (hu : A.units < cLine) (h : Q (.bool (lexLt xs ys)) s) :
    wpAny (model prog w) A (compareOp .Lt u v) Q E s := by
  obtain ⟨a, us, na, rfl, ga, pa⟩ := hx
  obtain ⟨b, vs, nb, rfl, gb, pb⟩ := hy
  have ta : s.TypeIs (.ref a) "tuple" := ⟨_, ga, rfl⟩
  have tb : s.TypeIs (.ref b) "tuple" := ⟨_, gb, rfl⟩
  exact wpAny_richCompare_same_room (op := .Lt) ta tb F.slot_tuple_lt
      (wpAny_call_entry F.slot_tuple_lt ta F.entry_tuple_lt (tuple_lt_tree ga gb pa pb hk ⟨_, rfl, (fun e => nomatch e), h⟩) (F.args_tuple_lt_2 _ _)) hu

theorem sub_list {value slice : PySem.Expr} {a : Addr} {vs : List Value} {n : Nat} {k : Int} {u : Tok} {v : Value} {Q : Value → Shared → Prop} (ha : s.heap.get? a = some (listOf vs.toArray n))
    (h0 : 0 ≤ k) (hfit : k < 2 ^ 63) (hx : vs[k.toNat]? = some v) (h : Q v s)
    (hs : subscripted slice false (.ref a) (.int k u) = operate [.ref a, .int k u] (getItem (.ref a) (.int k u)) := by with_unfolding_all rfl) :
    wpAny (model prog w) A (subscriptTail value slice (.ref a) (.int k u)) Q E s :=
  tail_any (PySem.IsL.isList (n := n) ha).typeIs slot_list_getitem.lookup (wpAny_getItem_list (PySem.IsL.isList (n := n) ha) h0 hfit (by simpa using hx) h) hs
theorem set_list {g : Heap} {L : Addr} {m : Str → Option Value} {a : Addr} {vs : List Value} {n : Nat} {k : Int} {u : Tok} {v : Value} {rest : List (Addr × Obj)} {Q : Unit → Shared → Prop} (F : Fr g L s.heap m) (N : News g L s.heap ((a, listOf vs.toArray n) :: rest)) (off : ∀ p ∈ rest, p.1 ≠ a)
    (h0 : 0 ≤ k) (hfit : k < 2 ^ 63) (hk : k < vs.length)
    (h : ∀ h', Fr g L h' m → News g L h' ((a, listOf (vs.set k.toNat v).toArray n) :: rest) → Q () { s with heap := h' }) : wpAny (model prog w) A (setItem (.ref a) (.int k u) v) Q E s := by
  have z := N _ (List.mem_cons_self ..)
  have hs : Heap.SameBut a s.heap (s.heap.update a (Obj.mapSeq (·.setIfInBounds k.toNat v))) := Heap.SameBut.update ..
  refine ki_setAt z.1 h0 hfit (by simpa using hk) (h _ (F.change hs z.2.1 z.2.2) (fun p hp => ?_))
  rcases List.mem_cons.mp hp with rfl | hp
  · refine ⟨?_, z.2⟩
    rw [Heap.get?_update_self _ z.1 (by rfl)]
    show some (Obj.mapSeq _ (listOf vs.toArray n)) = _
    simp [Obj.mapSeq]
  · exact ⟨(hs.2 _ (off p hp)).trans (N p (List.mem_cons_of_mem _ hp)).1, (N p (List.mem_cons_of_mem _ hp)).2⟩
theorem len_li {a : Addr} {vs : List Value} {n : Nat} {Q : Value → Shared → Prop} (ha : s.heap.get? a = some (listOf vs.toArray n)) (hsz : vs.length < 2 ^ 40)
    (h : ∀ t tk, Q (.int (vs.length : Int) t) { s with toks := tk }) : wpAny (model prog w) A (call (.builtin "len") [.ref a]) Q E s :=
  len_list (PySem.IsL.isList (n := n) ha) (by simp; omega) (by simpa using h _ _)
section
variable {g : Heap} {L : Addr} {m : Str → Option Value} {a : Addr} {vs : List Value} {n : Nat} {rest : List (Addr × Obj)} {Q : Value → Shared → Prop}
theorem append_li {x : Value} (F : Fr g L s.heap m) (N : News g L s.heap ((a, listOf vs.toArray n) :: rest)) (off : ∀ p ∈ rest, p.1 ≠ a) (hsz : vs.length < 10000000)
    (h : ∀ h', Fr g L h' m → News g L h' ((a, listOf (vs ++ [x]).toArray (n + 1)) :: rest) → Q .none { s with heap := h' }) : wpAny (model prog w) A (call (.builtin "list.append") [.ref a, x]) Q E s :=
  append_K F N (Upd.head off) (fun h' F' N' => h h' F' (by simpa using N')) (by rw [List.size_toArray, sizeLine_eq]; lia)
theorem pop_li {y : Value} (F : Fr g L s.heap m) (N : News g L s.heap ((a, listOf (vs ++ [y]).toArray n) :: rest)) (off : ∀ p ∈ rest, p.1 ≠ a) (hsz : vs.length < 10000000)
    (h : ∀ h', Fr g L h' m → News g L h' ((a, listOf vs.toArray (n + 1)) :: rest) → Q y { s with heap := h' }) : wpAny (model prog w) A (call (.builtin "list.pop") [.ref a]) Q E s :=
  kl_pop F N (p := vs) (y := y) (kpa_last y vs) (Upd.head off) (by rw [sizeLine_eq]; simp; lia) h
end
end
end Mine
namespace Mine
noncomputable abbrev DD := List Pv
noncomputable abbrev nth (ds : List DD) (i : Nat) : DD := ds.getD i []
noncomputable def Par (i : Nat) : Nat := (i - 1) / 2
structure LtOk (P : DD → Prop) (lt : DD → DD → Bool) : Prop where
  irr : ∀ a, P a → lt a a = false
  neg : ∀ a b c, P a → P b → P c → lt b a = false → lt c b = false → lt c a = false
  asym : ∀ a b, P a → P b → lt a b = true → lt b a = false
structure DInv (lt : DD → DD → Bool) (ds : List DD) (pos : Nat) (x : DD) : Prop where
  a : ∀ i, 0 < i → i < ds.length → i ≠ pos → Par i ≠ pos → lt (nth ds i) (nth ds (Par i)) = false
  b : ∀ i, 0 < i → i < ds.length → Par i = pos → lt (nth ds i) x = false
  c : 0 < pos → ∀ i, 0 < i → i < ds.length → Par i = pos → lt (nth ds i) (nth ds (Par pos)) = false
structure UInv (lt : DD → DD → Bool) (ds : List DD) (pos : Nat) : Prop where
  a : ∀ i, 0 < i → i < ds.length → i ≠ pos → Par i ≠ pos → lt (nth ds i) (nth ds (Par i)) = false
  c : 0 < pos → ∀ i, 0 < i → i < ds.length → Par i = pos → lt (nth ds i) (nth ds (Par pos)) = false
noncomputable def HeapOk (lt : DD → DD → Bool) (ds : List DD) : Prop := ∀ i, 0 < i → i < ds.length → lt (nth ds i) (nth ds (Par i)) = false
theorem nth_set_eq {ds : List DD} {i : Nat} {x : DD} (h : i < ds.length) : nth (ds.set i x) i = x := by
  simp [nth, List.getD_eq_getElem?_getD, h]
theorem nth_set_ne {ds : List DD} {i j : Nat} {x : DD} (h : i ≠ j) : nth (ds.set i x) j = nth ds j := by
  simp [nth, List.getD_eq_getElem?_getD, List.getElem?_set_ne h]
theorem par_lt {i : Nat} (h : 0 < i) : Par i < i := by unfold Par; omega
theorem nth_mem {ds : List DD} {i : Nat} (h : i < ds.length) : nth ds i ∈ ds := by
  simp [nth, List.getD_eq_getElem?_getD, h]
theorem set_mem_all {P : DD → Prop} {ds : List DD} {i : Nat} {x : DD} (h : ∀ d ∈ ds, P d) (hx : P x) : ∀ d ∈ ds.set i x, P d := fun d hd => by
  rcases List.mem_or_eq_of_mem_set hd with h1 | h1
  · exact h d h1
  · exact h1 ▸ hx

theorem Pv.total {x y : Pv} (k : x.isI = y.isI) (h1 : Pv.lt x y = false) (h2 : Pv.lt y x = false) : x = y := by
  cases x with
  | i a => cases y with
    | i b => simp [Pv.lt] at h1 h2; congr 1; lia
    | s b => cases k
  | s a => cases y with
    | i b => cases k
    | s b =>
      simp only [Pv.lt, decide_eq_false_iff_not] at h1 h2
      have e := List.le_antisymm (List.not_lt.mp h2) (List.not_lt.mp h1)
      have e' : a.cps = b.cps := Array.toList_inj.mp e
      cases a; cases b
      simp only at e'
      subst e'; rfl
theorem Pv.neg {x y z : Pv} (k1 : x.isI = y.isI) (k2 : y.isI = z.isI) (h1 : Pv.lt y x = false) (h2 : Pv.lt z y = false) : Pv.lt z x = false := by
  cases x with
  | i a => cases y with
    | i b => cases z with
      | i c => simp [Pv.lt] at h1 h2 ⊢; lia
      | s c => cases k2
    | s b => cases k1
  | s a => cases y with
    | i b => cases k1
    | s b => cases z with
      | i c => cases k2
      | s c =>
        simp only [Pv.lt, decide_eq_false_iff_not] at h1 h2 ⊢
        exact List.not_lt.mpr (List.le_trans (List.not_lt.mp h1) (List.not_lt.mp h2))
theorem Pv.irr (x : Pv) : Pv.lt x x = false := by
  cases x with
  | i a => simp [Pv.lt]
  | s a => simp only [Pv.lt, decide_eq_false_iff_not]; exact List.lt_irrefl _
theorem Pv.asym {x y : Pv} (h : Pv.lt x y = true) : Pv.lt y x = false := by
  cases x with
  | i a => cases y with
    | i b => simp [Pv.lt] at h ⊢; lia
    | s b => rfl
  | s a => cases y with
    | i b => rfl
    | s b =>
      simp only [Pv.lt, decide_eq_true_eq, decide_eq_false_iff_not] at h ⊢
      exact fun h2 => List.lt_irrefl _ (List.lt_trans h h2)
theorem lexLt_irr : ∀ a : DD, lexLt a a = false
  | [] => rfl
  | x :: xs => by simp [lexLt, lexLt_irr xs]
theorem lexLt_neg : ∀ (sh : List Bool) (a b c : DD), a.map Pv.isI = sh → b.map Pv.isI = sh → c.map Pv.isI = sh → lexLt b a = false → lexLt c b = false → lexLt c a = false
  | _, [], [], [], _, _, _, _, _ => rfl
  | sh, [], _ :: _, _, h1, h2, _, _, _ => by rw [← h1] at h2; simp at h2
  | sh, [], [], _ :: _, h1, _, h3, _, _ => by rw [← h1] at h3; simp at h3
  | sh, _ :: _, [], _, h1, h2, _, _, _ => by rw [← h1] at h2; simp at h2
  | sh, _ :: _, _ :: _, [], h1, _, h3, _, _ => by rw [← h1] at h3; simp at h3
  | sh, x :: xs, y :: ys, z :: zs, h1, h2, h3, e1, e2 => by
    have k1 : x.isI = y.isI ∧ xs.map Pv.isI = ys.map Pv.isI := by rw [← h1] at h2; simpa using h2.symm
    have k2 : y.isI = z.isI ∧ ys.map Pv.isI = zs.map Pv.isI := by rw [← h2] at h3; simpa using h3.symm
    simp only [lexLt] at e1 e2 ⊢
    by_cases q1 : y = x
    · subst q1
      rw [if_pos rfl] at e1
      by_cases q2 : z = y
      · subst q2
        rw [if_pos rfl] at e2 ⊢
        exact lexLt_neg _ xs ys zs rfl k1.2.symm (k2.2.symm.trans k1.2.symm) e1 e2
      · rw [if_neg q2] at e2 ⊢; exact e2
    · rw [if_neg q1] at e1
      by_cases q2 : z = y
      · subst q2
        rw [if_neg q1]; exact e1
      · rw [if_neg q2] at e2
        by_cases q3 : z = x
        · subst q3
          exact absurd (Pv.total k1.1.symm e1 e2) q1
        · rw [if_neg q3]; exact Pv.neg k1.1 k2.1 e1 e2
theorem lexLt_asym : ∀ (a b : DD), lexLt a b = true → lexLt b a = false
  | [], [], h => by cases h
  | [], _ :: _, _ => rfl
  | _ :: _, [], h => by cases h
  | x :: xs, y :: ys, h => by
    simp only [lexLt] at h ⊢
    by_cases q : x = y
    · subst q
      rw [if_pos rfl] at h ⊢
      exact lexLt_asym xs ys h
    · rw [if_neg q] at h
      rw [if_neg (Ne.symm q)]
      exact Pv.asym h
theorem lexLt_ok (sh : List Bool) : LtOk (fun d => d.map Pv.isI = sh) lexLt :=
  ⟨fun a _ => lexLt_irr a, fun a b c h1 h2 h3 => lexLt_neg sh a b c h1 h2 h3, fun a b _ _ => lexLt_asym a b⟩
section
variable {P : DD → Prop} {lt : DD → DD → Bool} {ds : List DD} {pos : Nat} {x : DD}
theorem DInv.done (h : DInv lt ds pos x) (hp : pos < ds.length) (e : pos = 0 ∨ lt x (nth ds (Par pos)) = false) : HeapOk lt (ds.set pos x) := by
  intro i h0 hi
  rw [List.length_set] at hi
  by_cases h1 : i = pos
  · subst h1
    rw [nth_set_eq hp, nth_set_ne (Nat.ne_of_gt (par_lt h0))]
    rcases e with e | e
    · (clear hi hp; lia)
    · exact e
  · rw [nth_set_ne (Ne.symm h1)]
    by_cases h2 : Par i = pos
    · rw [h2, nth_set_eq hp]
      exact h.b i h0 hi h2
    · rw [nth_set_ne (Ne.symm h2)]
      exact h.a i h0 hi h1 h2
theorem DInv.step (K : LtOk P lt) (hP : ∀ d ∈ ds, P d) (hx : P x) (h : DInv lt ds pos x) (hp : pos < ds.length) (h0 : 0 < pos) (e : lt x (nth ds (Par pos)) = true) : DInv lt (ds.set pos (nth ds (Par pos))) (Par pos) x := by
  have hq := par_lt h0
  have hql : Par pos < ds.length := Nat.lt_trans hq hp
  have Pq := hP _ (nth_mem hql)
  have hxq : lt (nth ds (Par pos)) x = false := K.asym _ _ hx Pq e
  refine ⟨fun i i0 hi h1 h2 => ?_, fun i i0 hi h1 => ?_, fun q0 i i0 hi h1 => ?_⟩
  · rw [List.length_set] at hi
    by_cases h3 : i = pos
    · subst h3; exact absurd rfl h2
    · rw [nth_set_ne (Ne.symm h3)]
      by_cases h4 : Par i = pos
      · rw [h4, nth_set_eq hp]
        exact h.c h0 i i0 hi h4
      · rw [nth_set_ne (Ne.symm h4)]
        exact h.a i i0 hi h3 h4
  · rw [List.length_set] at hi
    by_cases h3 : i = pos
    · subst h3
      rw [nth_set_eq hp]; exact hxq
    · rw [nth_set_ne (Ne.symm h3)]
      have h4 : Par i ≠ pos := by rw [h1]; exact Nat.ne_of_lt hq
      have h5 := h.a i i0 hi h3 h4
      rw [h1] at h5
      exact K.neg _ _ _ hx Pq (hP _ (nth_mem hi)) hxq h5
  · rw [List.length_set] at hi
    have hqq := par_lt q0
    rw [nth_set_ne (show pos ≠ Par (Par pos) by (clear hp h0 hql q0 i0 hi; lia))]
    have h6 : lt (nth ds (Par pos)) (nth ds (Par (Par pos))) = false := h.a (Par pos) q0 hql (by (clear hp h0 hql q0 i0 hi hqq; lia)) (by (clear hp h0 hql q0 i0 hi; lia))
    by_cases h3 : i = pos
    · subst h3
      rw [nth_set_eq hp]; exact h6
    · rw [nth_set_ne (Ne.symm h3)]
      have h4 : Par i ≠ pos := by rw [h1]; exact Nat.ne_of_lt hq
      have h5 := h.a i i0 hi h3 h4
      rw [h1] at h5
      exact K.neg _ _ _ (hP _ (nth_mem (by (clear h0 hql q0 i0 hi h3 h4; lia)))) Pq (hP _ (nth_mem hi)) h6 h5
theorem DInv.push (h : HeapOk lt ds) (x : DD) : DInv lt (ds ++ [x]) ds.length x := by
  have hl : (ds ++ [x]).length = ds.length + 1 := by simp
  refine ⟨fun i i0 hi h1 _ => ?_, fun i i0 hi h1 => ?_, fun _ i i0 hi h1 => ?_⟩
  · rw [hl] at hi
    have hi' : i < ds.length := by (clear hl i0; lia)
    have hp' : Par i < ds.length := Nat.lt_trans (par_lt i0) hi'
    have e1 : nth (ds ++ [x]) i = nth ds i := by simp [nth, List.getD_eq_getElem?_getD, List.getElem?_append_left hi']
    have e2 : nth (ds ++ [x]) (Par i) = nth ds (Par i) := by simp [nth, List.getD_eq_getElem?_getD, List.getElem?_append_left hp']
    rw [e1, e2]; exact h i i0 hi'
  · have := par_lt i0; (clear i0; lia)
  · have := par_lt i0; (clear i0; omega)
theorem DInv.any {y : DD} (h : DInv lt ds pos x) : DInv lt (ds.set pos y) pos x := by
  refine ⟨fun i i0 hi h1 h2 => ?_, fun i i0 hi h1 => ?_, fun p0 i i0 hi h1 => ?_⟩
  · rw [List.length_set] at hi
    rw [nth_set_ne (Ne.symm h1), nth_set_ne (Ne.symm h2)]; exact h.a i i0 hi h1 h2
  · rw [List.length_set] at hi
    have := par_lt i0
    rw [nth_set_ne (show pos ≠ i by (clear i0 hi; lia))]; exact h.b i i0 hi h1
  · rw [List.length_set] at hi
    have := par_lt i0
    have := par_lt p0
    rw [nth_set_ne (show pos ≠ i by (clear p0 i0 hi this; omega)), nth_set_ne (show pos ≠ Par pos by (clear p0 i0 hi; lia))]; exact h.c p0 i i0 hi h1
theorem UInv.start (h : HeapOk lt ds) (x : DD) : UInv lt (ds.set 0 x) 0 := by
  refine ⟨fun i i0 hi h1 h2 => ?_, fun p0 => absurd p0 (Nat.lt_irrefl _)⟩
  rw [List.length_set] at hi
  rw [nth_set_ne (Ne.symm h1), nth_set_ne (Ne.symm h2)]; exact h i i0 hi
theorem UInv.leaf (h : UInv lt ds pos) (e : ds.length ≤ 2 * pos + 1) (x : DD) : DInv lt ds pos x := by
  refine ⟨h.a, fun i i0 hi h1 => ?_, fun p0 i i0 hi h1 => ?_⟩
  · unfold Par at h1; lia
  · unfold Par at h1; (clear p0; omega)
theorem UInv.step (h : UInv lt ds pos) (hp : pos < ds.length) (c : Nat) (hc : c < ds.length) (hpc : Par c = pos) (hc0 : 0 < c) (hmin : ∀ j, 0 < j → j < ds.length → Par j = pos → lt (nth ds j) (nth ds c) = false) :
    UInv lt (ds.set pos (nth ds c)) c := by
  have hlt : pos < c := hpc ▸ par_lt hc0
  refine ⟨fun i i0 hi h1 h2 => ?_, fun _ i i0 hi h1 => ?_⟩
  · rw [List.length_set] at hi
    by_cases h3 : i = pos
    · subst h3
      have hp2 := par_lt i0
      rw [nth_set_eq hp, nth_set_ne (by (clear hc hc0 i0 hi h1 h2 hp hlt; lia))]
      exact h.c i0 c hc0 hc hpc
    · rw [nth_set_ne (Ne.symm h3)]
      by_cases h4 : Par i = pos
      · rw [h4, nth_set_eq hp]
        exact hmin i i0 hi h4
      · rw [nth_set_ne (Ne.symm h4)]
        exact h.a i i0 hi h3 h4
  · rw [List.length_set] at hi
    have hic := par_lt i0
    rw [hpc, nth_set_eq hp, nth_set_ne (show pos ≠ i by (clear hp hc hc0 i0 hi; lia))]
    have h5 := h.a i i0 hi (by (clear hp hc hc0 i0 hi; lia)) (by (clear hp hc hc0 i0 hi hic; lia))
    rw [h1] at h5
    exact h5
theorem HeapOk.root (K : LtOk P lt) (hP : ∀ d ∈ ds, P d) (h : HeapOk lt ds) : ∀ i, i < ds.length → lt (nth ds i) (nth ds 0) = false := by
  intro i
  induction i using Nat.strongRecOn with
  | ind i ih =>
    intro hi
    rcases Nat.eq_zero_or_pos i with e | i0
    · subst e; exact K.irr _ (hP _ (nth_mem hi))
    · have hp := par_lt i0
      exact K.neg _ _ _ (hP _ (nth_mem (by (clear hp; lia)))) (hP _ (nth_mem (by (clear i0; lia)))) (hP _ (nth_mem hi)) (ih _ hp (by (clear i0; omega))) (h i i0 hi)
theorem HeapOk.rootMem (K : LtOk P lt) (hP : ∀ d ∈ ds, P d) (h : HeapOk lt ds) : ∀ d ∈ ds, lt d (nth ds 0) = false := by
  intro d hd
  obtain ⟨i, hi, rfl⟩ := List.mem_iff_getElem.mp hd
  have := h.root K hP i hi
  simpa [nth, List.getD_eq_getElem?_getD, hi] using this
theorem HeapOk.dropLast (h : HeapOk lt ds) : HeapOk lt ds.dropLast := by
  intro i i0 hi
  have hl : ds.dropLast.length = ds.length - 1 := List.length_dropLast
  have hp := par_lt i0
  have e : ∀ j, j < ds.length - 1 → nth ds.dropLast j = nth ds j := fun j hj => by
    have hj' : j < ds.length := by (clear i0 hi hl hp; omega)
    simp [nth, List.getD_eq_getElem?_getD, hj, hj']
  rw [hl] at hi
  rw [e i hi, e _ (by (clear i0; lia))]
  exact h i i0 (by (clear hp; omega))
theorem HeapOk.nil : HeapOk lt [] := fun _ _ h => absurd h (Nat.not_lt_zero _)
theorem HeapOk.one : HeapOk lt [x] := fun i i0 h => by simp at h; lia
end
theorem set_perm : ∀ {l : List DD} {i : Nat}, i < l.length → ∀ x : DD, (l.set i x).Perm (x :: l.eraseIdx i)
  | [], _, h, _ => absurd h (Nat.not_lt_zero _)
  | a :: l, 0, _, x => List.Perm.refl _
  | a :: l, i + 1, h, x => ((set_perm (Nat.lt_of_succ_lt_succ h) x).cons a).trans (List.Perm.swap x a _)
theorem set_swap_perm {l : List DD} {i j : Nat} (hi : i < l.length) (hj : j < l.length) (hij : i ≠ j) (x : DD) : ((l.set i (nth l j)).set j x).Perm (l.set i x) := by
  have e : nth l j = l[j] := by simp [nth, List.getD_eq_getElem?_getD, hj]
  rw [e]
  have hj' : j < (l.set i l[j]).length := by simpa using hj
  have p1 : ((l.set i l[j]).set j x).Perm (x :: (l.set i l[j]).eraseIdx j) := set_perm hj' x
  have p2 : (l.set i x).Perm (x :: l.eraseIdx i) := set_perm hi x
  have p3 : (l.set i l[j]).Perm (l[j] :: l.eraseIdx i) := set_perm hi _
  have p4 : ((l.set i l[j])[j] :: (l.set i l[j]).eraseIdx j).Perm (l.set i l[j]) := by
    have q := (set_perm hj' (l.set i l[j])[j]).symm
    rw [List.set_getElem_self] at q
    exact q
  have e2 : (l.set i l[j])[j] = l[j] := by rw [List.getElem_set_ne hij]
  rw [e2] at p4
  exact p1.trans (((p4.trans p3).cons_inv.cons x).trans p2.symm)
end Mine
namespace Mine
noncomputable abbrev bnd (kd id : String) (x : Addr) : Obj := { cls := .type kd, data := .fields #[.builtin id, .ref x] }
theorem slot_wget : Slot "wrapper_descriptor" "__get__" "wrapper_descriptor.__get__" :=
  .of (owner := "wrapper_descriptor") (n := "__get__") (by rw [typeLookup_type, builtinLookup_eq_fast]; kernel_rfl) (by decide +kernel) (by decide +kernel) (by decide +kernel)
    (by first | exact .inl (by decide +kernel) | exact .inr (by decide +kernel)) (by rw [isSubtype_type]; kernel_rfl)
theorem slot_mget : Slot "method_descriptor" "__get__" "method_descriptor.__get__" :=
  .of (owner := "method_descriptor") (n := "__get__") (by rw [typeLookup_type, builtinLookup_eq_fast]; kernel_rfl) (by decide +kernel) (by decide +kernel) (by decide +kernel)
    (by first | exact .inl (by decide +kernel) | exact .inr (by decide +kernel)) (by rw [isSubtype_type]; kernel_rfl)
theorem entry_wget : entryFor table "wrapper_descriptor.__get__" = some Builtin.«wrapper_descriptor.__get__» := entryFor_of_tree (by kernel_rfl)
theorem entry_mget : entryFor table "method_descriptor.__get__" = some Builtin.«method_descriptor.__get__» := entryFor_of_tree (by kernel_rfl)
theorem args_wget (a b c : Value) : argsOk "wrapper_descriptor.__get__" ⟨[a, b, c], []⟩ := by unfold argsOk; kernel_rfl
theorem args_mget (a b c : Value) : argsOk "method_descriptor.__get__" ⟨[a, b, c], []⟩ := by unfold argsOk; kernel_rfl
theorem type_llen : typeOf (.builtin "list.__len__") = pure (.type "wrapper_descriptor") := by show builtinType _ = _; rw [builtinType_eq_fast]; kernel_rfl
theorem type_linit : typeOf (.builtin "list.__init__") = pure (.type "wrapper_descriptor") := by show builtinType _ = _; rw [builtinType_eq_fast]; kernel_rfl
theorem type_lpop : typeOf (.builtin "list.pop") = pure (.type "method_descriptor") := by show builtinType _ = _; rw [builtinType_eq_fast]; kernel_rfl
structure LDesc (id kd tn gid : String) (B : Builtin) : Prop where
  type : typeOf (.builtin id) = pure (.type tn)
  slot : Slot tn "__get__" gid
  entry : entryFor table gid = some B
  args : ∀ a b c, argsOk gid ⟨[a, b, c], []⟩
  tree : ∀ {M : Model} {A : Around} {E : Value → Shared → Prop} {s : Shared} {x C : Addr} {P : Fin → Shared → Prop}, Looks M s.heap (isInstance (.ref x) (.type "list")) true →
    P (.done (.ret (.ref s.heap.objs.size))) { s with heap := s.heap.push (bnd kd id x) } → wpAny M A (B ⟨[.builtin id, .ref x, .ref C], []⟩) P E s
theorem bind_tree {kd id : String} {n : Str} {M : Model} {A : Around} {E : Value → Shared → Prop} {s : Shared} {x : Addr} {P : Fin → Shared → Prop} (hn : (kfb_private% "nameAndClass") (.builtin id) = pure (n, .type "list"))
    (hI : Looks M s.heap (isInstance (.ref x) (.type "list")) true) (h : P (.done (.ret (.ref s.heap.objs.size))) { s with heap := s.heap.push (bnd kd id x) }) :
    wpAny M A ((kfb_private% "bindBuiltin") kd (.builtin id) (some (.ref x))) P E s := by
  show wpAny M A ((kfb_private% "checkInstance") (.builtin id) (.ref x) >>= fun _ => (newFields kd [.builtin id, .ref x] >>= fun v => ret v)) P E s
  refine wpAny_bind ?_
  show wpAny M A ((kfb_private% "nameAndClass") (.builtin id) >>= _) _ E s
  rw [hn]
  refine wpAny_bind (wpAny_pure ?_)
  refine wpAny_bind (hI.here ?_)
  simp -iota only [Bool.not_true, Bool.false_eq_true, if_false]
  exact wpAny_pure (wpAny_bind (wpAny_newObj_type (wpAny_pure h)))
theorem d_len : LDesc "list.__len__" "method-wrapper" "wrapper_descriptor" "wrapper_descriptor.__get__" Builtin.«wrapper_descriptor.__get__» :=
  ⟨type_llen, slot_wget, entry_wget, args_wget, fun hI h => by
    unfold Builtin.«wrapper_descriptor.__get__»
    refine wpAny_bind (wpAny_of_eq (a := (.builtin "list.__len__", some (.ref _), some (.ref _))) (by first | rfl | kernel_rfl) ?_)
    exact bind_tree (n := Str.ofString "__len__") (by first | rfl | kernel_rfl) hI h⟩
theorem d_init : LDesc "list.__init__" "method-wrapper" "wrapper_descriptor" "wrapper_descriptor.__get__" Builtin.«wrapper_descriptor.__get__» :=
  ⟨type_linit, slot_wget, entry_wget, args_wget, fun hI h => by
    unfold Builtin.«wrapper_descriptor.__get__»
    refine wpAny_bind (wpAny_of_eq (a := (.builtin "list.__init__", some (.ref _), some (.ref _))) (by first | rfl | kernel_rfl) ?_)
    exact bind_tree (n := Str.ofString "__init__") (by first | rfl | kernel_rfl) hI h⟩
theorem told_pop : Manifest.toldItsClass.contains "list.pop" = false := by decide +kernel
theorem d_pop : LDesc "list.pop" "builtin_function_or_method" "method_descriptor" "method_descriptor.__get__" Builtin.«method_descriptor.__get__» :=
  ⟨type_lpop, slot_mget, entry_mget, args_mget, fun hI h => by
    unfold Builtin.«method_descriptor.__get__»
    refine wpAny_bind (wpAny_of_eq (a := (.builtin "list.pop", some (.ref _), some (.ref _))) (by first | rfl | kernel_rfl) ?_)
    dsimp only
    rw [told_pop]
    simp -iota only [Bool.false_eq_true, if_false]
    exact bind_tree (n := Str.ofString "pop") (by first | rfl | kernel_rfl) hI h⟩
section
variable {prog : Program} {w : World} {A : Around} {E : Value → Shared → Prop} {h : Heap} {g : Array GenState} {d : Drawn} {t : Nat} {os : OsState}
theorem sup_ga {id kd tn gid : String} {B : Builtin} (Ld : LDesc id kd tn gid B) {so D x C : Addr} {l₀ l : List Value} {K : Frag} {name : Str} {tk : Tok} {Q : Fin → Shared → Prop}
    (hso : h.get? so = some { cls := .type "super", dict := none, data := .fields #[.ref D, .ref x, .ref C], slots := #[] }) (hno : Looks (model prog w) h (opaqueClassAbove (.ref C)) none)
    (hC : Looks (model prog w) h (mroOf (.ref C)) l₀) (hl : (l₀.dropWhile (· != .ref D)).drop 1 = l) (X : K.In h)
    (hf : alongIn K name l = some (some (.builtin id))) (hI : Looks (model prog w) h (isInstance (.ref x) (.type "list")) true) (hxC : x ≠ C) (hn : (name == ("__class__" : Str)) = false)
    (hq : Q (.done (.ret (.ref h.objs.size))) ⟨h.push (bnd kd id x), g, d, t, os⟩) :
    wpAny (model prog w) A (Builtin.«super.__getattribute__» ⟨[.ref so, .str name tk], []⟩) Q E ⟨h, g, d, t, os⟩ := by
  have hlk := Ld.slot.lookup
  have hne : (Value.ref x == Value.ref C) = false := by simp [hxC]
  have hTf : (⟨h, g, d, t, os⟩ : Shared).TypeIs (.builtin id) tn := Ld.type
  have hdt : ({ cls := .type "super", dict := none, data := .fields #[.ref D, .ref x, .ref C], slots := #[] } : Obj).data = .fields #[.ref D, .ref x, .ref C] := rfl
  have f0 : (#[.ref D, .ref x, .ref C] : Array Value)[0]? = some (.ref D) := rfl
  have f1 : (#[.ref D, .ref x, .ref C] : Array Value)[1]? = some (.ref x) := rfl
  have f2 : (#[.ref D, .ref x, .ref C] : Array Value)[2]? = some (.ref C) := rfl
  unfold Builtin.«super.__getattribute__»
  repeat (first
    | (with_reducible refine wpAny_field hso hdt f0 ?_) | (with_reducible refine wpAny_field hso hdt f1 ?_) | (with_reducible refine wpAny_field hso hdt f2 ?_)
    | (with_reducible refine ks_wpAny_notOpaque hno ?_)
    | (with_reducible refine Looks.at hC ?_; rw [hl])
    | (refine ks_forIn_along X (fun _ _ => rfl) rfl ?_ hf)
    | (with_reducible refine wpAny_typeOf hTf ?_)
    | (with_reducible refine wpAny_call_entry Ld.slot hTf Ld.entry (Ld.tree hI ?_) (Ld.args _ _ _))
    | (with_reducible refine ⟨_, rfl, ?_⟩)
    | (simp only [hn, hne, Bool.or_false, Bool.false_eq_true, if_false])
    | wp_step
    | dsimp only)
  all_goals exact hq
theorem sup_getMethod {id kd tn gid : String} {B : Builtin} (Ld : LDesc id kd tn gid B) {so D x C : Addr} {l₀ l : List Value} {K : Frag} {name : Str} {pl : Sem Bool} {Q : Value × List Value → Shared → Prop}
    (hso : h.get? so = some { cls := .type "super", dict := none, data := .fields #[.ref D, .ref x, .ref C], slots := #[] }) (hno : Looks (model prog w) h (opaqueClassAbove (.ref C)) none)
    (hC : Looks (model prog w) h (mroOf (.ref C)) l₀) (hl : (l₀.dropWhile (· != .ref D)).drop 1 = l) (X : K.In h)
    (hf : alongIn K name l = some (some (.builtin id))) (hI : Looks (model prog w) h (isInstance (.ref x) (.type "list")) true) (hxC : x ≠ C) (hn : (name == ("__class__" : Str)) = false)
    (hq : Q (.ref h.objs.size, []) ⟨h.push (bnd kd id x), g, d, t + 1, os⟩) :
    wpAny (model prog w) A (getMethod (.ref so) name pl) Q E ⟨h, g, d, t, os⟩ := by
  have hlk := F.ks_slot_super_ga.lookup
  have hcan := F.ks_canon_super_ga
  have hT : ∀ t', (⟨h, g, d, t', os⟩ : Shared).TypeIs (.ref so) "super" := fun _ => ⟨_, hso, rfl⟩
  unfold getMethod
  refine wpAny_bind (wpAny_specialOf (hT _) hlk ?_)
  show wpAny _ _ (if (Manifest.canonical "super.__getattribute__" != "object.__getattribute__") = true then _ else _) _ _ _
  rw [if_pos hcan]
  unfold getAttr getAttrBy
  refine wpAny_bind (wpAny_bind (wpAny_mkText (wpAny_holding (wpAny_bind (wpAny_typeOf (hT _) (wpAny_bind (wpAny_of_eq hlk ?_)))))))
  show wpAny _ _ (getAttrByItsOwn (.ref so) (.str name t) (.type "super") (.builtin "super.__getattribute__") true false) _ _ _
  unfold getAttrByItsOwn hookBefore callGetattribute boundAndCalled
  refine wpAny_bind (wpAny_of_eq (show (if onTheHeap (.type "super") then typeLookup (.type "super") "__getattr__" else pure none) = pure none from rfl) ?_)
  refine wpAny_bind (wpAny_attempt (wpAny_holding ?_))
  show wpAny _ _ (bindSpecial (.builtin "super.__getattribute__") (.ref so) >>= _) _ _ _
  refine wpAny_bind (wpAny_of_eq (F.ks_slot_super_ga.bind _) ?_)
  refine wpAny_mono (Q := fun v s' => v = .ref h.objs.size ∧ s' = ⟨h.push (bnd kd id x), g, d, t + 1, os⟩) (E := fun _ _ => False)
    (wpAny_call_entry F.ks_slot_super_ga (hT _) F.ks_entry_super_ga (sup_ga Ld hso hno hC hl X hf hI hxC hn ⟨_, rfl, rfl, rfl⟩) (F.ks_gaArgs_super _ _)) (fun v s' hv => ?_) fun _ _ z => z.elim
  obtain ⟨rfl, rfl⟩ := hv
  exact wpAny_pure (wpAny_pure hq)
end
section
variable {prog : Program} {w : World} {M : Model} {A : Around} {E : Value → Shared → Prop} {s : Shared} {h₀ : Heap} {L : Addr} {m : Str → Option Value} {news : List (Addr × Obj)} {K : Frag}
theorem sup_method {id kd tn gid : String} {B : Builtin} (Ld : LDesc id kd tn gid B) {x C D so : Addr} {ox : Obj} {odx : Option Obj} {name : Str} {pl : Sem Bool} {Q : Value × List Value → Shared → Prop}
    (F : Fr h₀ L s.heap m) (X₀ : K.In h₀) (N : News h₀ L s.heap news) (hso : (so, ks_superObj D x C) ∈ news) (I : InstAt s.heap x ox C odx) (ho : nsIn K cStatics "thirdparty.any" = some none)
    (hm : ks_superIn K C D name = some (some (.builtin id))) (hi : mroIn K C (.type "list") = some true) (hn : (name == ("__class__" : Str)) = false)
    (h : ∀ q h', Fr h₀ L h' m → News h₀ L h' ((q, bnd kd id x) :: news) → (∀ p ∈ news, p.1 < q) → Q (.ref q, []) { s with heap := h', toks := s.toks + 1 }) : wpAny (model prog w) A (getMethod (.ref so) name pl) Q E s := by
  have X : K.In s.heap := X₀.keeps F.keep
  obtain ⟨hh, g, d, t, os⟩ := s
  cases hc : clsIn K C with
  | none => unfold ks_superIn at hm; rw [hc] at hm; cases hm
  | some cd =>
    unfold ks_superIn at hm
    rw [hc] at hm
    refine sup_getMethod Ld (N _ hso).1 (looks_opaque X ho) (l₀ := cd.mro) ?_ rfl X hm (I.type.andThen (looks_mroIn X hi)) (ks_ne X I hc) hn ?_
    · exact fun A Q E s k q => wpAny_bind ((looks_clsIn X hc) A _ E s k (wpAny_pure q))
    · obtain ⟨F', N', l'⟩ := ks_newsPush (s := ⟨hh, g, d, t, os⟩) (o := bnd kd id x) F N rfl (Heap.get?_push_at rfl rfl) (fun b o e => Heap.get?_push_of_some _ e)
      exact h _ _ F' N' l'
theorem bnd_call {kd id : String} {q x : Addr} {B : Builtin} {args : List Value} {Q : Value → Shared → Prop} (hq : s.heap.get? q = some (bnd kd id x)) (hk : (Value.type kd == .type "method" || Value.type kd == .type "builtin_function_or_method" || Value.type kd == .type "method-wrapper") = true) (hk2 : (Value.type kd != .type "method") = true)
    (hc : ∀ {Q' : Unit → Shared → Prop} {A' : Around}, Q' () s → wpAny (model prog w) A' (checkBoundCall id ⟨.ref x :: args, []⟩) Q' E s) (he : entryFor table id = some B) (hqt : ∀ as, (Code.builtin id as).quiet = true)
    (ht : ∀ A' : Around, wpAny (model prog w) A' (B ⟨.ref x :: args, []⟩) (fun fin s' => ∃ v, fin = .done (.ret v) ∧ Q v s') E s) : wpAny (model prog w) A (call (.ref q) args) Q E s := by
  refine wpAny_call (codeAny_of_tree ?_)
  show wpAny _ A.in1 (callAny (.ref q) ⟨args, []⟩) _ _ s
  simp -iota only [callAny]
  refine wpAny_bind (wpAny_load hq ?_)
  simp only [bnd]
  rw [if_pos hk]
  have e0 : (#[Value.builtin id, Value.ref x] : Array Value)[0]? = some (.builtin id) := rfl
  have e1 : (#[Value.builtin id, Value.ref x] : Array Value)[1]? = some (.ref x) := rfl
  rw [e0, e1]
  dsimp only
  rw [if_pos hk2]
  refine wpAny_bind (hc ?_)
  refine wpAny_bind (wpAny_pure (wpAny_pure ?_))
  refine ⟨hqt _, codeAny_builtin he (wpAny_mono (ht _) (fun fin s' h => ?_) fun _ _ z => z)⟩
  obtain ⟨v, rfl, hv⟩ := h
  exact hv
noncomputable def BndAt (kd id : String) (q x : Addr) (h : Heap) : Prop := h.get? q = some (bnd kd id x)
theorem bnd_callWith {kd id : String} {pos : Pos} {u x : Addr} {args : List (Bool × Sem Value)} {Q : Value → Shared → Prop} (hk : (Value.type kd == .type "builtin_function_or_method" || Value.type kd == .type "method-wrapper") = true) (hk2 : (Value.type kd != .type "method") = true) (hplain : args.any (·.1) = false)
    (h : wpAny M A (evalArgs (.ref u) true args []) (fun y s₁ => BndAt kd id u x s₁.heap ∧ wpAny M A (call (.ref u) y.pos y.kw) Q E s₁) E s) : wpAny M A (callWith pos (.ref u) [] args []) Q E s := by
  unfold callWith
  refine wpAny_bind (wpAny_holding (wpAny_mono h (fun y s₁ h₁ => wpAny_bind (wpAny_standAt ?_)) fun _ _ x => x))
  obtain ⟨ho, hcall⟩ := h₁
  simp -iota only [hplain, List.any_nil, Bool.or_false]
  refine wpAny_bind (m := keeperOf (.ref u)) ?_
  unfold keeperOf
  refine wpAny_bind (wpAny_load ho ?_)
  simp -iota only [bnd, hk, hk2, if_true]
  refine wpAny_pure ?_
  exact wpAny_bind (wpAny_mono hcall (fun r s₂ hr => wpAny_bind (wpAny_holding (wpAny_point (wpAny_pure hr)))) fun _ _ x => x)
theorem bnd_callWith0 {kd id : String} {pos : Pos} {u x : Addr} {env : Env} {Q : Value → Shared → Prop} (hk : (Value.type kd == .type "builtin_function_or_method" || Value.type kd == .type "method-wrapper") = true) (hk2 : (Value.type kd != .type "method") = true)
    (hb : s.heap.get? u = some (bnd kd id x)) (h : wpAny M A (call (.ref u) []) Q E s) : wpAny M A (callWith pos (.ref u) [] (backTo pos (starEach [] env)) []) Q E s :=
  bnd_callWith (kd := kd) (id := id) (x := x) hk hk2 rfl (evalArgs_nil3 ⟨hb, h⟩)
end
section
variable {prog : Program} {w : World} {K : Frag} {p : Program} {loose : List Str} {mean : ExcName → Option Value} {mg mb : Str → Option Value}
theorem enterS {base : Heap} {dp un : Nat} {gd : Option (List Code)} {fr : List Env} {s : Shared} {R : Result → Shared → Prop} {name qual : Str} {params : Arguments} {body : List Stmt} {scope : Scope} {cl : List (Str × Addr)} {dV kV doc pm cdv ct oc : Value} {an od : Option Addr} {osl : Array (Option Value)} {f : Addr} {args : Args} {binds : List (Str × Value)} (rb : List (Str × Value))
    (D : List (Addr × Obj)) (X : K.In base) (T : Top p loose mean mg mb base) (hS : base.StaysIn s.heap) (hD : ∀ q ∈ D, s.heap.get? q.1 = some q.2 ∧ base.get? q.1 = none)
    (ho : K.lookup f = some ⟨oc, od, .func (fnX name qual params body scope cl dV kV doc pm an cdv ct), osl⟩) (hcd : codeIn K cdv qual = true) (hroom : dp < recursionLimit)
    (hbind : BindsTo s (fnX name qual params body scope cl dV kV doc pm an cdv ct) args binds) (hloc : ∀ y ∈ binds, scope.names.lookup y.1 = some .local) (hrb : binds.reverse = rb)
    (h : ∀ g L h₁ tk, Fr g L h₁ (fun y => rb.lookup y) → News g L h₁ D → K.In g → Top p loose mean mg mb g → Keep (D.map Prod.fst) s.heap g → (∀ b o, s.heap.get? b = some o → b < L) →
      _root_.PySem.wpAt (model prog w) (amb (dp + 1) (un + 3) gd (envX qual scope L f cdv cl :: fr)) (.func body (envX qual scope L f cdv cl)) (execs body (envX qual scope L f cdv cl)) (fun fl s' => R (.ok (.ret (match fl with | .ret v => v | _ => .none))) s') FF { s with heap := h₁, toks := tk })
    (hco : scope.isCoroutine = false) (hgen : scope.isGenerator = false) (hk : scope.kind = .function)
    (hcell : ∀ x ∈ scope.names, x.2 ≠ .cell) : codeAny (model prog w) (amb dp un gd fr) (.call (.ref f) args) R s := by
  have XS := X.keeps hS
  refine ks_codeAny_call_defAt (fd := fnX name qual params body scope cl dV kV doc pm an cdv ct) (body := body) (binds := binds) hroom (XS _ _ ho) rfl (T.nolimit.keeps hS) (codeRec_of XS hcd) rfl hbind hcell hloc (fun h₁ hns hk₁ => ?_) hco hgen hk
  have st : base.StaysIn (hideAll s.heap (D.map Prod.fst)) := fun b o e => hideAll_get _ (hS b o e) fun q => by
    obtain ⟨q', hq, rfl⟩ := List.mem_map.mp q
    rw [(hD q' hq).2] at e; cases e
  exact ks_wpAt_mono (h (hideAll s.heap (D.map Prod.fst)) s.heap.objs.size h₁ _
    ⟨hrb ▸ hns, fun b o e => hk₁ b o (of_hideAll _ e), Nat.le_of_eq (hideAll_size _ _)⟩
    (fun q hq => ⟨hk₁ _ _ (hD q hq).1, Nat.ne_of_lt (Heap.lt_size (hD q hq).1), hideAll_none _ (List.mem_map_of_mem (f := Prod.fst) hq)⟩) (X.keeps st) (T.keeps st) (fun b o hb e => hideAll_get _ e hb) (fun b o e => Heap.lt_size e)) (fun _ _ x => x) fun _ _ x => x.elim
end
section
variable {prog : Program} {w : World} {A : Around} {E : Value → Shared → Prop} {s : Shared}
theorem quiet_llen (as : Args) : (Code.builtin "list.__len__" as).quiet = true := Code.quiet_builtin _ (by decide +kernel)
theorem quiet_linit (as : Args) : (Code.builtin "list.__init__" as).quiet = true := Code.quiet_builtin _ (by decide +kernel)
theorem quiet_lpop (as : Args) : (Code.builtin "list.pop" as).quiet = true := Code.quiet_builtin _ (by decide +kernel)
theorem check_llen (x : Addr) : checkBoundCall "list.__len__" ⟨[.ref x], []⟩ = pure () := by first | rfl | kernel_rfl
theorem check_linit (x : Addr) : checkBoundCall "list.__init__" ⟨[.ref x], []⟩ = pure () := by first | rfl | kernel_rfl
theorem seqSize_at {a : Addr} {o : Obj} {vs : Array Value} {n : Nat} {Q : Nat → Shared → Prop} (ho : s.heap.get? a = some o) (hd : o.data = .seq vs n) (h : Q vs.size s) : wpAny (model prog w) A (seqSize a) Q E s := by
  unfold seqSize
  refine wpAny_bind (wpAny_loadPart ho ?_)
  rw [hd]
  exact wpAny_pure h
theorem llen_tree {a : Addr} {o : Obj} {vs : Array Value} {n : Nat} {P : Fin → Shared → Prop} (ho : s.heap.get? a = some o) (hd : o.data = .seq vs n) (h : ∀ t tk, P (.done (.ret (.int (vs.size : Int) t))) { s with toks := tk }) :
    wpAny (model prog w) A (Builtin.«list.__len__» ⟨[.ref a], []⟩) P E s := by
  unfold Builtin.«list.__len__»
  refine wpAny_bind (wpAny_of_eq (a := (.ref a, [])) (by first | rfl | kernel_rfl) ?_)
  dsimp only
  exact wpAny_bind (seqSize_at ho hd (wpAny_bind (wpAny_mkInt (wpAny_pure (h _ _)))))
theorem sup_len {a q : Addr} {o : Obj} {vs : Array Value} {n : Nat} {Q : Value → Shared → Prop} (hq : s.heap.get? q = some (bnd "method-wrapper" "list.__len__" a)) (ho : s.heap.get? a = some o) (hd : o.data = .seq vs n) (h : ∀ t tk, Q (.int (vs.size : Int) t) { s with toks := tk }) :
    wpAny (model prog w) A (call (.ref q) []) Q E s :=
  bnd_call hq (by decide) (by decide) (fun h => wpAny_of_eq (check_llen a) h) (entryFor_of_tree (by kernel_rfl)) quiet_llen (fun _ => llen_tree ho hd fun t tk => ⟨_, rfl, h t tk⟩)
end
end Mine
namespace Mine
section
variable {prog : Program} {w : World} {M : Model} {A : Around} {E : Value → Shared → Prop} {s : Shared} {K : Frag} {x C : Addr} {ox : Obj} {od : Option Obj} {items : Array Value} {n : Nat}
theorem special_bi {id : String} {name : Str} {args : List Value} {kw : List (Str × Value)} {Q : Option Value → Shared → Prop} (X : K.In s.heap) (I : InstAt s.heap x ox C od) (hs : findIn K (.ref C) name = some (some (.builtin id))) (hb : bindSpecial (.builtin id) (.ref x) = pure (.builtin id, [.ref x]))
    (h : wpAny M A (call (.builtin id) (.ref x :: args) kw) (fun v => Q (some v)) E s) : wpAny M A (callSpecial? (.ref x) name args kw) Q E s := by
  unfold callSpecial? specialOf
  refine wpAny_bind (wpAny_bind (I.type.here ((looks_findIn X hs).here ?_)))
  simp only [hb]
  exact wpAny_holding (wpAny_bind (wpAny_pure (wpAny_bind (wpAny_mono h (fun v s' h' => wpAny_pure h') fun _ _ h' => h'))))
theorem check_meth {i owner n : String} {self : Value} {rest : List Value} {kw : List (Str × Value)} {Q : Unit → Shared → Prop}
    (hk : builtinKind i = some .method) (hs : splitId i = some (owner, n)) (hi : Looks M s.heap (isInstance self (.type owner)) true) (ha : argsOk i ⟨self :: rest, kw⟩) (q : Q () s) :
    wpAny M A (checkBuiltinCall i ⟨self :: rest, kw⟩) Q E s := by
  simp only [checkBuiltinCall, hk, hs]
  refine wpAny_bind (hi.here ?_)
  simp only [Bool.not_true, Bool.false_eq_true, if_false]
  cases hsig : Manifest.signature? i with
  | none => exact wpAny_pure q
  | some sig =>
    simp only [argsOk, hsig] at ha
    have h2 : Bind.checkArgs i sig ⟨self :: rest, kw⟩ = pure () := ha
    show wpAny M A (Bind.checkArgs i sig ⟨self :: rest, kw⟩) Q E s
    rw [h2]; exact wpAny_pure q
theorem call_bi {id n : String} {B : Builtin} {rest : List Value} {Q : Value → Shared → Prop} (X : K.In s.heap) (I : InstAt s.heap x ox C od) (hm : mroIn K C (.type "list") = some true)
    (hk : builtinKind id = some .method ∨ builtinKind id = some .slot) (hs : splitId id = some ("list", n)) (hp : plainId id = true) (he : entryFor table id = some B) (ha : argsOk id ⟨.ref x :: rest, []⟩)
    (ht : wpAny (model prog w) A.in1 (B ⟨.ref x :: rest, []⟩) (fun fin s' => ∃ v, fin = .done (.ret v) ∧ Q v s') E s) : wpAny (model prog w) A (call (.builtin id) (.ref x :: rest)) Q E s := by
  have hI : Looks (model prog w) s.heap (isInstance (.ref x) (.type "list")) true := I.type.andThen (looks_mroIn X hm)
  refine wpAny_call (codeAny_call_builtin hp he ?_)
  have fin : wpAny (model prog w) A.in1 (B ⟨.ref x :: rest, []⟩) (fun fin s' => match fin with
      | .done f => (match (Except.ok f : Result) with | .ok (.ret v) => Q v s' | .ok _ => False | .error e => E e s')
      | .again c' => c'.quiet = true ∧ codeAny (model prog w) A c' (fun (r : Result) s' => match r with | .ok (.ret v) => Q v s' | .ok _ => False | .error e => E e s') s') E s :=
    wpAny_mono ht (fun fin s' h' => by obtain ⟨v, rfl, hv⟩ := h'; exact hv) fun _ _ h' => h'
  rcases hk with hk | hk
  · exact check_meth hk hs hI ha fin
  · exact check_slot hk hs hI ha fin
theorem getitem_int_tree {k : Int} {t : Tok} {y : Value} {P : Fin → Shared → Prop} (ho : s.heap.get? x = some ox) (hd : ox.data = .seq items n) (h0 : 0 ≤ k) (hfit : k < 2 ^ 63) (hx : items[k.toNat]? = some y) (h : P (.done (.ret y)) s) :
    wpAny M A (Builtin.«list.__getitem__» ⟨[.ref x, .int k t], []⟩) P E s := by
  show wpAny _ _ (Builtin.List.listSubscript? (.int k t) >>= _) _ _ s
  refine wpAny_bind (wpAny_listSubscript_int (fitsIndex_of h0 hfit) ?_)
  clear hfit
  obtain ⟨j, rfl⟩ := Int.eq_ofNat_of_zero_le h0
  have hx' : items[j]? = some y := hx
  show wpAny _ _ ((seqItemAt x j >>= fun r => pure (r.map (j, ·))) >>= _) _ _ s
  refine wpAny_bind (wpAny_bind (wpAny_seqItemAt ho hd (wpAny_pure ?_)))
  rw [hx']
  first
    | exact wpAny_bind (wpAny_pure (wpAny_pure h))
    | exact wpAny_pure h
theorem slice_parts {sl : Addr} {vl vu : Value} {lo hi : Option Int} {Q : Value × Value × Value → Shared → Prop} (hs : s.heap.IsSliceOf sl vl vu .none) (pl : IsPart vl lo) (pu : IsPart vu hi) (h : Q (rawPart lo, rawPart hi, rawPart none) s) :
    wpAny M A (Builtin.List.listSliceParts (.ref sl)) Q E s := by
  obtain ⟨os, hos, hcs, hds⟩ := hs
  rw [listSliceParts_eq]
  refine wpAny_bind (wpAny_field hos hds (x := .none) rfl (wpAny_bind (wpAny_listPart (k := none) .none ?_)))
  rw [if_neg (show ¬ ((rawPart none == rawInt 0) = true) from Bool.false_ne_true)]
  refine wpAny_bind (wpAny_field hos hds (x := vl) rfl (wpAny_bind (wpAny_listPart pl ?_)))
  exact wpAny_bind (wpAny_field hos hds (x := vu) rfl (wpAny_bind (wpAny_listPart pu (wpAny_pure h))))
theorem no_subscript {sl : Addr} {vl vu : Value} {Q : Option Int → Shared → Prop} (hs : s.heap.IsSliceOf sl vl vu .none) (h : Q none s) : wpAny M A (Builtin.List.listSubscript? (.ref sl)) Q E s := by
  obtain ⟨os, hos, hcs, hds⟩ := hs
  have hTs : s.TypeIs (.ref sl) "slice" := ⟨os, hos, hcs⟩
  unfold Builtin.List.listSubscript?
  refine wpAny_bind (wpAny_specialOf hTs slice_no_index ?_)
  simp only [Option.isNone_none, if_true]
  exact wpAny_pure h
theorem items_at {Q : Array Value → Shared → Prop} (ho : s.heap.get? x = some ox) (hd : ox.data = .seq items n) (h : Q items s) : wpAny M A (Builtin.List.listItems (.ref x)) Q E s := by
  unfold Builtin.List.listItems
  exact wpAny_bind (wpAny_seqItems ho hd (wpAny_pure h))
theorem getitem_slice_tree {sl : Addr} {vl vu : Value} {lo hi : Option Int} {P : Fin → Shared → Prop} (ho : s.heap.get? x = some ox) (hd : ox.data = .seq items n) (hs : s.heap.IsSliceOf sl vl vu .none) (pl : IsPart vl lo) (pu : IsPart vu hi) (hsz : items.size ≤ sizeLine)
    (h : P (.done (.ret (.ref s.heap.objs.size))) { s with heap := s.heap.push (listOf (slicePick items lo hi none) 0) }) :
    wpAny M A (Builtin.«list.__getitem__» ⟨[.ref x, .ref sl], []⟩) P E s := by
  have hTs : s.TypeIs (.ref sl) "slice" := ⟨_, hs.choose_spec.1, hs.choose_spec.2.1⟩
  show wpAny _ _ (Builtin.List.listSubscript? (.ref sl) >>= _) _ _ s
  refine wpAny_bind (no_subscript hs ?_)
  show wpAny _ _ (typeOf (.ref sl) >>= _) _ _ s
  refine wpAny_bind (wpAny_typeOf hTs ?_)
  rw [if_neg (by decide)]
  refine wpAny_bind (slice_parts hs pl pu ?_)
  refine wpAny_bind (items_at ho hd ?_)
  refine wpAny_bind (wpAny_of_eq (sliceIndices_raw lo hi none items.size (fun e => nomatch e)) ?_)
  exact wpAny_bind (wpAny_newObj_type (wpAny_pure h) (Nat.le_trans (slicePick_size_le items lo hi none) hsz))
theorem cut_room {a b n m : Nat} (h : n + m ≤ 1000000) : min a n - 0 + m + (min n n - b) ≤ 16777216 + 1 := by lia
theorem setitem_slice_tree {sl e : Addr} {oe : Obj} {new : Array Value} {ne : Nat} {vl vu : Value} {lo hi : Option Int} {P : Fin → Shared → Prop} (ho : s.heap.get? x = some ox) (hd : ox.data = .seq items n) (hs : s.heap.IsSliceOf sl vl vu .none) (pl : IsPart vl lo) (pu : IsPart vu hi)
    (he : s.heap.get? e = some oe) (hec : oe.cls = .type "list") (hed : oe.data = .seq new ne) (hxe : x ≠ e) (hsz : items.size + new.size ≤ 1000000)
    (h : P (.done (.ret .none)) { s with heap := s.heap.update x (Obj.mapSeq fun xs => xs.extract 0 (sliceBounds lo hi none items.size).1.toNat ++ new ++ xs.extract (max (sliceBounds lo hi none items.size).1 (sliceBounds lo hi none items.size).2.1).toNat xs.size) }) :
    wpAny M A (Builtin.«list.__setitem__» ⟨[.ref x, .ref sl, .ref e], []⟩) P E s := by
  have hTs : s.TypeIs (.ref sl) "slice" := ⟨_, hs.choose_spec.1, hs.choose_spec.2.1⟩
  have hTe : s.TypeIs (.ref e) "list" := ⟨_, he, hec⟩
  unfold Builtin.«list.__setitem__»
  refine wpAny_bind (wpAny_of_eq (a := (.ref x, [.ref sl, .ref e])) (by first | rfl | kernel_rfl) ?_)
  dsimp only
  refine wpAny_bind (no_subscript hs ?_)
  refine wpAny_bind (wpAny_typeOf hTs ?_)
  rw [if_neg (by decide)]
  refine wpAny_bind (slice_parts hs pl pu ?_)
  have hne : Builtin.List.listSameRef (.ref x) (.ref e) = false := by
    show (x == e) = false
    simp [hxe]
  rw [hne]
  simp only [Bool.false_eq_true, if_false]
  refine wpAny_bind ?_
  · unfold Builtin.List.listAllItems
    refine wpAny_bind (wpAny_typeOf hTe ?_)
    rw [if_pos (by decide)]
    refine items_at he hed ?_
    refine wpAny_bind (items_at ho hd ?_)
    refine wpAny_bind (wpAny_of_eq (sliceIndices_raw lo hi none items.size (fun e => nomatch e)) ?_)
    have h1 : ((sliceBounds lo hi none items.size).2.2 == (1 : Int)) = true := rfl
    rw [if_pos h1]
    refine wpAny_bind (wpAny_rule ?_)
    have h2 : Builtin.List.listTooLong (items.size + new.size) = false := by
      unfold Builtin.List.listTooLong
      rw [decide_eq_false_iff_not, sizeLine_eq]; (clear hxe; lia)
    rw [h2]
    simp only [Bool.false_eq_true, if_false]
    refine wpAny_bind ?_
    show wpAny _ _ (updateSeq x _) _ _ _
    refine wpAny_updateSeq ho hd ?_ (by rw [sizeLine_eq]; (clear hxe; lia)) (by simp only [Array.size_append, Array.size_extract, sizeLine_eq]; exact cut_room hsz)
    refine wpAny_bind (wpAny_letGo ?_)
    exact wpAny_bind (wpAny_pure (wpAny_pure h))
end
end Mine
namespace Mine
noncomputable def SeqAt (h : Heap) (a : Addr) (items : Array Value) : Prop := ∃ o n, h.get? a = some o ∧ o.data = .seq items n
theorem SeqAt.extBut {h h' : Heap} {a b : Addr} {items : Array Value} (x : SeqAt h a items) (k : Heap.ExtBut b h h') (hne : a ≠ b) : SeqAt h' a items :=
  let ⟨o, n, e, r⟩ := x; ⟨o, n, k a o hne e, r⟩
theorem SeqAt.keeps {h h' : Heap} {a : Addr} {items : Array Value} (x : SeqAt h a items) (k : ∀ o, h.get? a = some o → h'.get? a = some o) : SeqAt h' a items :=
  let ⟨o, n, e, r⟩ := x; ⟨o, n, k o e, r⟩
theorem SeqAt.lt {h : Heap} {a : Addr} {items : Array Value} (x : SeqAt h a items) : a < h.objs.size := let ⟨_, _, e, _⟩ := x; Heap.lt_size e
section
variable {prog : Program} {w : World} {A : Around} {E : Value → Shared → Prop} {s : Shared}
theorem next_item {it l : Addr} {i : Nat} {items : Array Value} {x : Value} {Q : Option Value → Shared → Prop} (hit : s.heap.IsListIter it l i) (hl : SeqAt s.heap l items) (hx : items[i]? = some x)
    (hQ : ∀ h', h'.IsListIter it l (i + 1) → Heap.SameBut it s.heap h' → Q (some x) { s with heap := h' }) : wpAny (model prog w) A (pyNext (.ref it)) Q E s := by
  obtain ⟨oi, hoi, hci, hdi⟩ := id hit
  obtain ⟨ol, nl, hol, hdl⟩ := hl
  unfold pyNext
  refine wpAny_bind (wpAny_attempt (wpAny_callSpecial?_slot (name := Str.ofString "__next__") hit.typeIs slot_listiter_next (wpAny_call_entry slot_listiter_next hit.typeIs entry_listiter_next ?_ (args_listiter_next _))))
  show wpAny _ _ (field (.ref it) 0 >>= _) _ _ s
  refine wpAny_bind (wpAny_field hoi hdi (x := .ref l) rfl ?_)
  show wpAny _ _ (if (Value.ref l == Value.none) = true then _ else _) _ _ s
  rw [if_neg (show ¬ ((Value.ref l == Value.none) = true) from Bool.false_ne_true)]
  show wpAny _ _ (field (.ref it) 1 >>= _) _ _ s
  refine wpAny_bind (wpAny_field hoi hdi (x := .int i 0) rfl ?_)
  show wpAny _ _ (seqItems? (.ref l) >>= _) _ _ s
  refine wpAny_bind (wpAny_seqItems hol hdl ?_)
  simp only [Int.toNat_natCast, hx]
  refine wpAny_bind (wpAny_setField hoi hdi (by simp) (wpAny_pure ⟨x, rfl, wpAny_pure (hQ _ ?_ (Heap.SameBut.update ..))⟩))
  refine ⟨_, Heap.get?_update_self _ hoi (Obj.isFreed_of_fields (Obj.data_mapFields hdi _)), (Obj.cls_mapFields ..).trans hci, ?_⟩
  rw [Obj.data_mapFields hdi]
  simp [rawInt]
theorem next_end {it l : Addr} {i : Nat} {items : Array Value} {Q : Option Value → Shared → Prop} (hh : A.handled = none) (hit : s.heap.IsListIter it l i) (hl : SeqAt s.heap l items) (hx : items[i]? = none)
    (hQ : ∀ h', Heap.ExtBut it s.heap h' → Q none { s with heap := h' }) : wpAny (model prog w) A (pyNext (.ref it)) Q E s := by
  obtain ⟨oi, hoi, hci, hdi⟩ := id hit
  obtain ⟨ol, nl, hol, hdl⟩ := hl
  unfold pyNext
  refine wpAny_bind (wpAny_attempt (wpAny_callSpecial?_slot (name := Str.ofString "__next__") hit.typeIs slot_listiter_next (wpAny_call_entry slot_listiter_next hit.typeIs entry_listiter_next ?_ (args_listiter_next _))))
  show wpAny _ _ (field (.ref it) 0 >>= _) _ _ s
  refine wpAny_bind (wpAny_field hoi hdi (x := .ref l) rfl ?_)
  show wpAny _ _ (if (Value.ref l == Value.none) = true then _ else _) _ _ s
  rw [if_neg (show ¬ ((Value.ref l == Value.none) = true) from Bool.false_ne_true)]
  show wpAny _ _ (field (.ref it) 1 >>= _) _ _ s
  refine wpAny_bind (wpAny_field hoi hdi (x := .int i 0) rfl ?_)
  show wpAny _ _ (seqItems? (.ref l) >>= _) _ _ s
  refine wpAny_bind (wpAny_seqItems hol hdl ?_)
  simp only [Int.toNat_natCast, hx]
  refine wpAny_bind (wpAny_rule (wpAny_bind (wpAny_setField hoi hdi (by simp) ?_)))
  show wpAny _ _ (newExc (.type "StopIteration") [] >>= _) _ _ _
  refine wpAny_bind ?_
  simp -iota only [newExc, newTuple]
  refine wpAny_bind (wpAny_newObj_type ?_ (by size_fits))
  refine wpAny_bind (m := firstArgMember _ _) (wpAny_of_eq (a := Value.none) (by first | rfl | (simp -iota only [firstArgMember]; rfl)) ?_)
  refine wpAny_newObj_type ?_ (by size_fits)
  simp -iota only [raiseNew]
  refine wpAny_bind (wpAny_handled ?_)
  rw [show A.in1.handled = none from hh]
  refine wpAny_bind (wpAny_pure (wpAny_throw ?_))
  refine wpAny_bind (wpAny_isInstance (T := "StopIteration") (b := true) ⟨_, Heap.get?_push_size _ rfl, rfl⟩ isSubtype_stop ?_)
  exact wpAny_pure (hQ _ (((Heap.SameBut.update ..).extBut.push _).push _))
end
theorem seqTuples {prog : Program} {w : World} {A : Around} (hh : A.handled = none) (I ax : Addr) (hne : ax ≠ I) (items : Array Value) (Ts : Nat → Addr) (vals : Nat → Array Value)
    (hit : ∀ j, j < items.size → items[j]? = some (.ref (Ts j))) (hTI : ∀ j, j < items.size → Ts j ≠ I) :
    WalksU prog w A I (I :: ax :: (List.range items.size).map Ts) [I] items.size (fun j v => j < items.size ∧ v = vals j)
      (fun j h => h.IsListIter I ax j ∧ SeqAt h ax items ∧ ∀ k, k < items.size → h.IsTuple (Ts k) (vals k))
      (fun j T h => (j < items.size ∧ T = Ts j) ∧ h.IsListIter I ax (j + 1) ∧ SeqAt h ax items ∧ ∀ k, k < items.size → h.IsTuple (Ts k) (vals k)) where
  sub := fun b hb => by simp at hb; simp [hb]
  frame := fun _ _ _ st hk => ⟨st.1.at fun o e => hk I (by simp) o e, st.2.1.keeps fun o e => hk ax (by simp) o e,
    fun k hk' => (st.2.2 k hk').at fun o e => hk (Ts k) (List.mem_cons_of_mem _ (List.mem_cons_of_mem _ (List.mem_map.mpr ⟨k, List.mem_range.mpr hk', rfl⟩))) o e⟩
  item := fun i s Q E hi st hQ => by
    refine next_item st.1 st.2.1 (x := .ref (Ts i)) (hit i hi) fun h' hit' hs' => ?_
    have tup : ∀ k, k < items.size → h'.IsTuple (Ts k) (vals k) := fun k hk' => (st.2.2 k hk').extBut hs'.extBut (hTI k hk')
    exact hQ (Ts i) (vals i) h' s.toks ⟨hi, rfl⟩ (tup i hi) ⟨⟨hi, rfl⟩, hit', st.2.1.extBut hs'.extBut hne, tup⟩ fun b o hb e => hs'.extBut b o (fun h => hb (by simp [h])) e
  go := fun _ _ _ _ _ s Q _ hm hQ => wpAny_letOwnedTupleGo_listiter hm.2.1 (hQ s.heap hm.2 fun _ _ _ e => e)
  apart := fun j T _ hm hmem => by
    rcases List.mem_cons.mp hmem with e | e
    · exact hTI j hm.1.1 (hm.1.2 ▸ e)
    · cases e
  done := fun s Q E st hQ => next_end hh st.1 st.2.1 (by simp) fun h' he' => hQ h' s.toks fun b o hb e => he' b o (fun h => hb (by simp [h])) e
  self := fun _ _ _ _ st hQ => wpAny_pyIter_listiter st.1 hQ
section
variable {prog : Program} {w : World} {A : Around} {E : Value → Shared → Prop} {s : Shared} {K : Frag} {x C : Addr} {ox : Obj} {od : Option Obj}
theorem iter_inst {Q : Value → Shared → Prop} (X : K.In s.heap) (I : InstAt s.heap x ox C od) (hm : mroIn K C (.type "list") = some true) (hs : findIn K (.ref C) "__iter__" = some (some (.builtin "list.__iter__")))
    (hQ : Q (.ref s.heap.objs.size) { s with heap := s.heap.push { cls := .type "list_iterator", data := .fields #[.ref x, .int 0 0] } }) : wpAny (model prog w) A (pyIter (.ref x)) Q E s := by
  have hcall : wpAny (model prog w) A (call (.builtin "list.__iter__") [.ref x]) (fun v s' => wpAny (model prog w) A (specialOf v "__next__" >>= fun r => match r with
      | none => (do rule "iter.non-iterator"; raiseError "TypeError" s!"iter() returned non-iterator of type '{← typeNameOf v}'")
      | some _ => pure v) Q E s') E s := by
    refine call_bi (n := "__iter__") X I hm (by first | exact .inl (by decide +kernel) | exact .inr (by decide +kernel)) (by decide +kernel) (by decide +kernel) entry_list_iter (args_list_iter _) ?_
    show wpAny _ _ (do ret (← newFields "list_iterator" [.ref x, rawInt 0])) _ _ s
    exact wpAny_bind (wpAny_newObj_type (wpAny_pure ⟨_, rfl, wpAny_bind (wpAny_specialOf (T := "list_iterator") ⟨_, Heap.get?_push_size _ rfl, rfl⟩ slot_listiter_next.lookup (wpAny_pure hQ))⟩))
  unfold pyIter specialOf
  refine wpAny_bind (wpAny_bind (I.type.here ((looks_findIn X hs).here ?_)))
  show wpAny _ _ (callSpecialIfBoundUnlessNone? _ _ _ >>= _) _ _ _
  refine wpAny_bind ?_
  simp -iota only [callSpecialIfBoundUnlessNone?, bindSpecialIfBound?, specialOf]
  refine wpAny_holding (wpAny_bind (wpAny_bind (wpAny_bind (I.type.here ((looks_findIn X hs).here ?_)))))
  simp only [slot_list_iter.bind]
  have fin : ∀ (refuse : Sem Value), wpAny (model prog w) A (if (Value.builtin "list.__iter__" == Value.none) = true then (refuse >>= fun v => pure (some v)) else (call (.builtin "list.__iter__") [.ref x] >>= fun v => pure (some v))) (fun r s' => wpAny (model prog w) A (match r with
      | some it => (specialOf it "__next__" >>= fun r => match r with
        | none => (do rule "iter.non-iterator"; raiseError "TypeError" s!"iter() returned non-iterator of type '{← typeNameOf it}'")
        | some _ => pure it)
      | none => (do
        match ← bindSpecialIfBound? (.ref x) "__getitem__" with
        | none => rule "iter.not-iterable"; raiseError "TypeError" s!"'{← typeNameOf (.ref x)}' object is not iterable"
        | some _ => rule "iter.getitem-fallback"; newFields "iterator" [.ref x, ← mkInt 0])) Q E s') E s := fun refuse => by
    rw [if_neg (show ¬ ((Value.builtin "list.__iter__" == Value.none) = true) from by decide)]
    exact wpAny_bind (wpAny_mono hcall (fun v s' h' => wpAny_pure h') fun _ _ h' => h')
  refine wpAny_bind (wpAny_askSetting (wpAny_ite ?_))
  split
  · exact wpAny_bind (wpAny_pure (wpAny_pure (fin _)))
  · exact wpAny_tryCatch (wpAny_bind (wpAny_pure (wpAny_pure (fin _))))
end
end Mine
namespace Mine
section
variable {prog : Program} {w : World} {A : Around} {I : Addr} {fp wr : List Addr} {G : Array GenState → Array GenState → Prop} {n : Nat} {P : Nat → Value → Prop} {St : Nat → Shared → Prop}
noncomputable def shP (P : Nat → Value → Prop) : Nat → Value → Prop
  | 0, _ => False
  | i + 1, v => P i v
noncomputable def shS (St : Nat → Shared → Prop) : Nat → Shared → Prop
  | 0, _ => False
  | i + 1, s => St i s
noncomputable def shV (st : Int) (val : Nat → Int) : Nat → Int
  | 0 => st
  | i + 1 => val i
theorem preSum_sh (st : Int) (val : Nat → Int) : ∀ j, preSum (shV st val) (j + 1) = st + preSum val j
  | 0 => by simp [preSum, shV]
  | j + 1 => by
    have := preSum_sh st val j
    rw [preSum, this]
    simp [preSum, shV]; (clear this; lia)
theorem walks_sh (W : WalksS prog w A I fp wr G n P St) : WalksS prog w A I fp wr G (n + 1) (shP P) (shS St) where
  sub := W.sub
  grefl := W.grefl
  gtrans := W.gtrans
  frame := fun i s h' tk st ht hk => by
    cases i with
    | zero => exact st.elim
    | succ i => exact W.frame i s h' tk st ht hk
  item := fun i s Q E hi st hQ => by
    cases i with
    | zero => exact st.elim
    | succ i => exact W.item i s Q E (Nat.lt_of_succ_lt_succ hi) st hQ
  done := fun s Q E st hQ => W.done s Q E st hQ
  self := fun i s Q E st hQ => by
    cases i with
    | zero => exact st.elim
    | succ i => exact W.self i s Q E st hQ
theorem walks_imp {P' : Nat → Value → Prop} (W : WalksS prog w A I fp wr G n P St) (h : ∀ j y, P j y → P' j y) : WalksS prog w A I fp wr G n P' St where
  sub := W.sub
  grefl := W.grefl
  gtrans := W.gtrans
  frame := W.frame
  item := fun i s Q E hi st hQ => W.item i s Q E hi st fun v s' hP => hQ v s' (h _ _ hP)
  done := W.done
  self := W.self
end
theorem args_sum2 (a b : Value) : argsOk "sum" ⟨[a, b], []⟩ := by unfold argsOk; kernel_rfl
noncomputable def GenH (prog : Program) (w : World) (A : Around) (sz a : Nat) (n : Nat) (Fv : Nat → Value → Prop) (s : Shared) : Prop :=
  ∃ fp wr g St, WalksS prog w A.in4 a fp wr (GenOnlyQ g) n Fv St ∧ St 0 s ∧ (∀ i s', St i s' → s'.TypeIs (.ref a) "generator") ∧ a ∈ fp ∧ (∀ b ∈ fp, b < s.heap.objs.size) ∧ ∀ b ∈ wr, sz ≤ b
section
variable {prog : Program} {w : World} {A : Around} {E : Value → Shared → Prop} {s : Shared} {sz a n : Nat} {Fv : Nat → Value → Prop} {Q : Value → Shared → Prop}
theorem GenH.toks {tk : Nat} (X : GenH prog w A sz a n Fv s) (h : s.toks ≤ tk) : GenH prog w A sz a n Fv { s with toks := tk } := by
  obtain ⟨fp, wr, g, St, W, hst, hT, ha, hfp, hwr⟩ := X
  exact ⟨fp, wr, g, St, W, W.frame 0 s s.heap tk hst h (fun _ _ _ e => e), hT, ha, hfp, hwr⟩
theorem sum_gen {st : Int} {t : Tok} (X : GenH prog w A sz a n Fv s) (G : AllBare s.gens) (val : Nat → Int) (hval : ∀ j v, Fv j v → ∃ t, v = .int (val j) t) (hst0 : InLong st) (hfit : ∀ j, j < n → InLong (val j) ∧ InLong (st + preSum val (j + 1)))
    (hQ : ∀ h' g' tk' t', AllBare g' → (∀ b o, b < sz → s.heap.get? b = some o → h'.get? b = some o) → Q (.int (st + preSum val n) t') { s with heap := h', gens := g', toks := tk' }) :
    wpAny (model prog w) A (call (.builtin "sum") [.ref a, .int st t]) Q E s := by
  obtain ⟨fp, wr, g, St, W4, hst, hT, ha, hfp, hwr⟩ := X
  have W := walks_sh W4.in4_1
  refine call_function_tree F.kind_sum F.plain_sum F.entry_sum (args_sum2 _ _) ?_
  unfold Builtin.«sum»
  simp -iota only [List.length_cons, List.length_nil]
  rw [if_neg (by decide)]
  refine wpAny_bind (wpAny_of_eq (show Builtin.Builtins.bindParams "sum" ["start"] 0 ⟨[.int st t], []⟩ = pure [some (.int st t)] from rfl) ?_)
  dsimp only
  refine wpAny_bind (W4.in4_1.self 0 _ _ _ hst ?_)
  have hc : (decide (-(2 ^ 63) ≤ st) && decide (st < 2 ^ 63)) = true := by
    obtain ⟨f1, f2⟩ := hst0
    simp -iota only [Bool.and_eq_true, decide_eq_true_eq]
    exact ⟨f1, f2⟩
  show wpAny _ _ (if (_ : Bool) = true then _ else _) _ _ _
  split
  · refine wpAny_bind (wpAny_rule (wpAny_bind (wpAny_mkInt ?_)))
    refine wpAny_bind (wpAny_pure ?_)
    simp -iota only [List.forIn_cons, List.forIn_nil]
    refine wpAny_bind (wpAny_bind (wpAny_bind (wpAny_isInstance (T := "int") (b := false) (typeIs_int _ _ _) PySem.sub_int_str ?_)))
    simp -iota only [Bool.false_eq_true, if_false]
    refine wpAny_pure (wpAny_bind (wpAny_bind (wpAny_isInstance (T := "int") (b := false) (typeIs_int _ _ _) PySem.sub_int_bytes ?_)))
    simp -iota only [Bool.false_eq_true, if_false]
    refine wpAny_pure (wpAny_bind (wpAny_bind (wpAny_isInstance (T := "int") (b := false) (typeIs_int _ _ _) PySem.sub_int_bytearray ?_)))
    simp -iota only [Bool.false_eq_true, if_false]
    refine wpAny_pure (wpAny_pure ?_)
    refine wpAny_bind (wpAny_newObj_type ?_)
    have hSf : s.heap.objs.size ∉ fp := fun hm => Nat.lt_irrefl _ (hfp _ hm)
    have e1 : preSum (shV st val) 1 = st := by simp [preSum, shV]
    refine wpAny_pure ⟨plainId_quiet F.plain_sum_loop _, codeAny_sum_loopS W (shV st val) (fun i v hP => ?_) (fun j hj => ?_) s.heap.objs.size hSf n 1 _ s.toks 0 (by (clear hSf e1; lia)) (by (clear hSf e1; lia))
      (W.frame 1 s _ _ hst (by first | exact Nat.le_refl _ | exact Nat.le_succ _ | omega) fun b _ o e => Heap.get?_push_of_some _ e) (by rw [e1]; exact Heap.get?_push_size _ rfl) fun s' t' hm => ?_⟩
    · cases i with
      | zero => exact hP.elim
      | succ i => exact hval i v hP
    · cases j with
      | zero => rw [e1]; exact ⟨hst0, hst0⟩
      | succ j => rw [preSum_sh]; exact hfit j (Nat.lt_of_succ_lt_succ hj)
    · have hm' := hm.drop_new (by first | exact Nat.le_refl _ | exact Nat.le_succ _ | omega)
      rw [preSum_sh]
      have gb := G.movedS hm'
      obtain ⟨h', g', d', tk', o'⟩ := s'
      have ed : d' = s.drawn := hm'.drawn
      have eo : o' = s.os := hm'.os
      subst ed; subst eo
      exact hQ h' g' tk' t' gb fun b o hb e => hm'.heap b o (fun hw => by have := hwr b hw; (clear hSf e1; lia)) e
  · rename_i hneg
    exact absurd hc hneg
end
end Mine
namespace Mine
noncomputable def TabOk (pos : Pos) (ps : Array Value) : Prop := ps = #[] ∨ ∃ c' : Addr, ps = #[rawInt pos.line, rawInt pos.col, .ref c']
theorem TabOk.triples {pos : Pos} {ps : Array Value} (h : TabOk pos ps) : TriplesOk ps.toList := by
  rcases h with rfl | ⟨c', rfl⟩
  · trivial
  · simp [TriplesOk, rawInt]
theorem TabOk.cases {pos : Pos} {ps : Array Value} (h : TabOk pos ps) : (ps = #[] ∧ codeAmong pos ps.toList = none) ∨ ∃ c' : Addr, codeAmong pos ps.toList = some (.ref c') := by
  rcases h with rfl | ⟨c', rfl⟩
  · exact .inl ⟨rfl, rfl⟩
  · exact .inr ⟨c', by simp [codeAmong, rawInt]⟩
section
variable {prog : Program} {w : World} {A : Around} {E : Value → Shared → Prop} {s : Shared} {h₀ : Heap} {L : Addr} {m mg mb : Str → Option Value} {news : List (Addr × Obj)} {p : Program} {loose : List Str} {mean : ExcName → Option Value}
theorem genT {env : Env} {elt iter : PySem.Expr} {xa xb : Str} {pa pb pt : Pos} {kt : Nat} {scope : Scope} {cl : List (Str × Addr)} {pos : Pos} {Q : Value → Shared → Prop} {x c P : Addr} {ps items : Array Value} {Ts : Nat → Addr} {va vb : Nat → Value} {Fv : Nat → Value → Prop}
    (Fm : Fr h₀ L s.heap m) (N : News h₀ L s.heap ((P, tabObj ps) :: news)) (hnP : ∀ q ∈ news, q.1 ≠ P) (G : AllBare s.gens) (T : Top p loose mean mg mb h₀) (C : CodeHd h₀ c P) (ht : TabOk pos ps)
    (hev : ∀ Q' : Value → Shared → Prop, Q' (.ref x) s → wpAny (model prog w) A (eval iter env) Q' E s)
    (hit : ∀ Q' : Value → Shared → Prop, Q' (.ref s.heap.objs.size) { s with heap := s.heap.push { cls := .type "list_iterator", data := .fields #[.ref x, .int 0 0] } } → wpAny (model prog w) A (pyIter (.ref x)) Q' E s)
    (hx : SeqAt s.heap x items) (hxP : x ≠ P) (hat : ∀ j, j < items.size → items[j]? = some (.ref (Ts j))) (htup : ∀ j, j < items.size → s.heap.IsTuple (Ts j) #[va j, vb j])
    (helt : ∀ (c' C : Addr) (t : Shared) m₂ i E' (A' : Around), A'.handled = none → A'.depth ≤ A.depth + 1 → A'.units ≤ A.units + 8 → i < items.size → Fr h₀ C t.heap m₂ → m₂ xa = some (va i) → m₂ xb = some (vb i) →
      wpAny (model prog w) A' (eval elt (genEnv scope cl C (.ref c') builtinsNs env)) (fun y s₃ => Fv i y ∧ Keeps t s₃) E' t)
    (h : ∀ a h' g' tk' ps', Fr h₀ L h' m → News h₀ L h' ((P, tabObj ps') :: news) → TabOk pos ps' → AllBare g' → (∀ b o, b ≠ P → s.heap.get? b = some o → h'.get? b = some o) → s.heap.objs.size ≤ h'.objs.size →
      GenH prog w A s.heap.objs.size a items.size Fv { s with heap := h', gens := g', toks := tk' } → Q (.ref a) { s with heap := h', gens := g', toks := tk' })
    (hh : A.handled = none := by rfl) (hcode : env.code = .ref c := by rfl) (hglob : env.globals = mainGlobals := by rfl) (hco : scope.isCoroutine = false := by rfl) (hclos : closureFor scope env = pure cl := by rfl) (hcell : ∀ y ∈ scope.names, y.2 ≠ .cell := by decide)
    (h0 : scope.names.lookup (".0" : Str) = some NameKind.local := by rfl) (hxa : scope.names.lookup xa = some .local := by rfl) (hxb : scope.names.lookup xb = some .local := by rfl) (hab : xa ≠ xb := by decide) (hkind : scope.kind = .function := by rfl) (hroom : A.depth < recursionLimit)
    (hs : ∀ x, genFold iter env x = pure x := by intro _; rfl) :
    wpAny (model prog w) A (eval (.GeneratorExp elt [⟨.Tuple [.Name xa pa, .Name xb pb] kt pt, iter, [], 0⟩] scope pos) env) Q E s := by
  have hP := (N _ (.head _)).1
  have hPL : P ≠ L := (N _ (.head _)).2.1
  have hP0 : h₀.get? P = none := (N _ (.head _)).2.2
  have hPlt : P < s.heap.objs.size := Heap.lt_size hP
  have hzP : s.heap.objs.size ≠ P := Nat.ne_of_gt hPlt
  obtain ⟨bm, ob, hb1, hb2, hb3, hb4, hb5, hb6⟩ := T.bmain
  have k2 : ∀ b o, s.heap.get? b = some o → (s.heap.push { cls := .type "list_iterator", data := .fields #[.ref x, .int 0 0] }).get? b = some o := fun b o e => Heap.get?_push_of_some _ e
  have hcs : cStatics ≠ P := fun e => by
    obtain ⟨_, hns, _⟩ := T.nolimit
    obtain ⟨o, es, ep, ho, hd, _⟩ := hns
    rw [e, hP0] at ho; cases ho
  refine wpAny_GeneratorExp_walksQTD hh hco hclos hcell h0 hxa hxb hab hkind hroom (hev _ (hit _ ⟨(T.nolimit.keeps Fm.keep).push _, ?_⟩)) hs
  have main : ∀ (c' : Addr) (h₃ : Heap) (tk₃ : Nat) (ps' : Array Value), Heap.ExtBut P (s.heap.push { cls := .type "list_iterator", data := .fields #[.ref x, .int 0 0] }) h₃ → (s.heap.push { cls := .type "list_iterator", data := .fields #[.ref x, .int 0 0] }).objs.size ≤ h₃.objs.size →
      h₃.get? P = some (tabObj ps') → TabOk pos ps' → wpAny (model prog w) A (builtinsFor env.globals env.builtins) (fun bi s₄ =>
        ∃ I fp wr n₀ Pt St₀ Mid pz F, Value.ref s.heap.objs.size = .ref I ∧ (∀ A' : Around, A'.handled = none → WalksU prog w A' I fp wr n₀ Pt St₀ Mid) ∧ (∀ i vals, Pt i vals → ∃ va vb, vals = #[va, vb]) ∧ St₀ 0 s₄.heap ∧ (∀ b ∈ fp, b < s₄.heap.objs.size) ∧ s₄.heap.NoLimit ∧ cStatics ∉ wr ∧
          (∀ href : Heap, (∀ b o, s₄.heap.get? b = some o → href.get? b = some o) →
            QuietGenTD prog w (genEnv scope cl s₄.heap.objs.size (.ref c') bi env) xa xb [] elt (List.range s₄.heap.objs.size) wr Pt pz F href (A.depth + 1) (A.units + 8)) ∧
          (∀ a h₅ tk gs, gs.bare = true → s₄.heap.objs.size < a → h₅.objs.size = a + 1 → (∀ b o, s₄.heap.get? b = some o → h₅.get? b = some o) →
            WalksS prog w A.in4 a (a :: s₄.heap.objs.size :: List.range s₄.heap.objs.size) (s₄.heap.objs.size :: wr) (GenOnlyQ s₄.gens.size) (passing pz n₀ 0).length
              (fun j y => ∃ i, (passing pz n₀ 0)[j]? = some i ∧ F i y) (GenAt prog w A.in4 a s₄.gens.size s₄.heap.objs.size (List.range s₄.heap.objs.size) wr pz n₀ F) →
            GenAt prog w A.in4 a s₄.gens.size s₄.heap.objs.size (List.range s₄.heap.objs.size) wr pz n₀ F 0 { s₄ with gens := s₄.gens.push gs, toks := tk, heap := h₅ } →
            Q (.ref a) { s₄ with gens := s₄.gens.push gs, toks := tk, heap := h₅ })) E { s with heap := h₃, toks := tk₃ } := by
    intro c' h₃ tk₃ ps' hx₃ hz₃ hP₃ ht₃
    rw [Heap.size_push] at hz₃
    have k3 : ∀ b o, b ≠ P → s.heap.get? b = some o → h₃.get? b = some o := fun b o hb e => hx₃ b o hb (k2 b o e)
    have k0 : ∀ b o, h₀.get? b = some o → h₃.get? b = some o := fun b o e => k3 b o (fun q => by rw [q, hP0] at e; cases e) (Fm.keep b o e)
    rw [hglob]
    refine wpAny_builtinsFor (T.g.keeps k0) hb1 hb2 (k0 _ _ hb3) hb4 hb5 hb6 ?_
    have hlx : x < s.heap.objs.size := hx.lt
    have hTP : ∀ j, j < items.size → Ts j ≠ P := fun j hj e => by
      obtain ⟨o, ho, hc, _⟩ := htup j hj
      rw [e, hP] at ho; cases ho; cases hc
    have hTlt : ∀ j, j < items.size → Ts j < s.heap.objs.size := fun j hj => by obtain ⟨o, ho, _⟩ := htup j hj; exact Heap.lt_size ho
    refine ⟨s.heap.objs.size, _, _, _, _, _, _, fun _ => true, Fv, rfl, fun A' hA => seqTuples hA s.heap.objs.size x (Nat.ne_of_lt hlx) items Ts (fun j => #[va j, vb j]) hat fun j hj => Nat.ne_of_lt (hTlt j hj), fun i vals hv => ⟨_, _, hv.2⟩, ?_, ?_, ?_, ?_, ?_, ?_⟩
    · exact ⟨⟨_, hx₃ _ _ hzP (Heap.get?_push_size _ rfl), rfl, rfl⟩, hx.keeps fun o e => k3 x o hxP e, fun k hk => (htup k hk).at fun o e => k3 _ o (hTP k hk) e⟩
    · intro b hb
      show b < h₃.objs.size
      rcases List.mem_cons.mp hb with rfl | hb
      · exact hz₃
      · rcases List.mem_cons.mp hb with rfl | hb
        · exact Nat.lt_trans hlx hz₃
        · obtain ⟨j, hj, rfl⟩ := List.mem_map.mp hb
          exact Nat.lt_trans (hTlt j (List.mem_range.mp hj)) hz₃
    · exact T.nolimit.keeps k0
    · intro hm
      obtain ⟨_, hns, _⟩ := T.nolimit
      have h1 : cStatics < h₀.objs.size := hns.lt
      have h2 := Nat.lt_of_lt_of_le h1 Fm.above
      have h3 := Fm.ns.lt
      rw [List.mem_singleton.mp hm] at h2
      exact Nat.lt_irrefl _ (Nat.lt_trans h2 h3)
    · intro href hhref
      have inB : ∀ (t : Shared) m₂, t.heap.Ns h₃.objs.size m₂ → (∀ b ∈ List.range h₃.objs.size, b ∉ [s.heap.objs.size] → ∀ o, href.get? b = some o → t.heap.get? b = some o) → Fr h₀ h₃.objs.size t.heap m₂ := fun t m₂ hn hkp =>
        ⟨hn, fun b o e => hkp b (List.mem_range.mpr (Heap.lt_size (k0 b o e))) (fun hm => by
          have h2 := Nat.lt_of_lt_of_le (Heap.lt_size e) Fm.above
          have h3 := Fm.ns.lt
          rw [List.mem_singleton.mp hm] at h2
          exact Nat.lt_irrefl _ (Nat.lt_trans h2 h3)) o (hhref b o (k0 b o e)), Nat.le_of_lt (Nat.lt_trans (Nat.lt_of_le_of_lt Fm.above Fm.ns.lt) hz₃)⟩
      refine ⟨fun A' E' i u v t m₂ hA hD hU hPt hn hma hmb hkp => ?_, fun A' E' i u v t m₂ hA hD hU hPt _ hn hma hmb hkp => ?_⟩
      · simp only [List.forIn_nil]
        exact wpAny_pure ⟨rfl, t.heap, t.toks, rfl, fun _ _ e => e⟩
      · obtain ⟨hi, e⟩ := hPt
        have e1 : u = va i ∧ v = vb i := by simpa using congrArg Array.toList e
        obtain ⟨rfl, rfl⟩ := e1
        exact helt c' h₃.objs.size t m₂ i E' A' hA hD hU hi (inB t m₂ hn hkp) hma hmb
    · intro a h₅ tk gs hgb hag hsz₅ hk₅ W hat
      have k5 : ∀ b o, b ≠ P → s.heap.get? b = some o → h₅.get? b = some o := fun b o hb e => hk₅ b o (k3 b o hb e)
      have hpass : passing (fun _ => true) items.size 0 = List.range items.size := by unfold passing; simp
      rw [hpass] at W
      have hl : (List.range items.size).length = items.size := List.length_range
      rw [hl] at W
      refine h a h₅ _ tk ps' ⟨Fm.ns.at fun o e => k5 L o hPL.symm e, fun b o e => hk₅ b o (k0 b o e), Fm.above⟩ (fun q hq => ?_) ht₃ (G.push hgb) k5 (by rw [hsz₅]; exact Nat.le_of_lt (Nat.lt_succ_of_lt (Nat.lt_trans hz₃ hag))) ?_
      · rcases List.mem_cons.mp hq with rfl | hq
        · exact ⟨hk₅ _ _ hP₃, hPL, hP0⟩
        · have z := N q (.tail _ hq)
          exact ⟨k5 _ _ (hnP q hq) z.1, z.2⟩
      · refine ⟨_, _, _, _, walks_imp W (fun j y hy => ?_), hat, (fun i s' st => st.1.typeIs), List.mem_cons_self, ?_, ?_⟩
        · obtain ⟨i, hi, hF⟩ := hy
          rw [List.getElem?_eq_some_iff] at hi
          obtain ⟨hj, e⟩ := hi
          rw [List.getElem_range] at e
          rw [e]; exact hF
        · intro b hb
          show b < h₅.objs.size
          rw [hsz₅]
          rcases List.mem_cons.mp hb with rfl | hb
          · exact Nat.lt_succ_self _
          · rcases List.mem_cons.mp hb with rfl | hb
            · exact Nat.lt_succ_of_lt hag
            · exact Nat.lt_succ_of_lt (Nat.lt_trans (List.mem_range.mp hb) hag)
        · intro b hb
          rcases List.mem_cons.mp hb with rfl | hb
          · exact Nat.le_of_lt hz₃
          · rw [List.mem_singleton.mp hb]; exact Nat.le_refl _
  have C2 : CodeHd (s.heap.push { cls := .type "list_iterator", data := .fields #[.ref x, .int 0 0] }) c P := C.keeps fun b o e => k2 b o (Fm.keep b o e)
  rcases ht.cases with ⟨rfl, hn⟩ | ⟨c', hf⟩
  · refine wpAny_genexprCodeX hcode (C2.code (k2 _ _ hP) ht.triples) (C2.tab (k2 _ _ hP)) hn fun c' h' tk hx₃ hge hlt _ _ htab _ => ?_
    exact main c' h' tk _ hx₃ (Nat.le_trans hge (Nat.le_of_lt hlt)) htab.2 (.inr ⟨c', by simp⟩)
  · refine wpAny_genexprCode_hit hcode (C2.code (k2 _ _ hP) ht.triples) hf ?_
    exact main c' _ s.toks ps (fun _ _ _ e => e) (Nat.le_refl _) (k2 _ _ hP) ht
end
section
variable {M : Model} {A : Around} {E : Value → Shared → Prop} {s : Shared} {h₀ : Heap} {C : Addr} {m mg mb : Str → Option Value} {p : Program} {loose : List Str} {K : Frag} {x : Str} {pos : Pos} {v code : Value} {scope : Scope} {cl : List (Str × Addr)} {env : Env} {Q : Value → Shared → Prop}
theorem genB (F : Fr h₀ C s.heap m) (X : K.In h₀) (T : TopRead p loose mg mb h₀) (e : nsIn K mainGlobals x = some none) (hv : bootBuiltins x = some v) (hn : x ≠ "__name__") (h : Q v s)
    (hg : env.globals = mainGlobals := by rfl) (hk : scope.kind = .function := by rfl) (hx : (genEnv scope cl C code builtinsNs env).kindOf x = some .globalImplicit := by rfl) (hd : (x == ("__debug__" : Str)) = false := by decide) :
    wpAny M A (eval (.Name x pos) (genEnv scope cl C code builtinsNs env)) Q E s :=
  Name_function_global hk hx (loadGlobal_builtin (env := genEnv scope cl C code builtinsNs env) (show s.heap.Ns env.globals mg from hg ▸ T.g.keeps F.keep) (mg_none_of X T.g e) (T.b.keeps F.keep) ((T.builtins x hn).trans hv) h) hd
theorem genK (F : Fr h₀ C s.heap m) (X : K.In h₀) (T : TopRead p loose mg mb h₀) (e : nsIn K mainGlobals x = some (some v)) (h : Q v s)
    (hg : env.globals = mainGlobals := by rfl) (hk : scope.kind = .function := by rfl) (hx : (genEnv scope cl C code builtinsNs env).kindOf x = some .globalImplicit := by rfl) (hd : (x == ("__debug__" : Str)) = false := by decide) :
    wpAny M A (eval (.Name x pos) (genEnv scope cl C code builtinsNs env)) Q E s :=
  Name_function_global hk hx (loadGlobal_global (env := genEnv scope cl C code builtinsNs env) (show s.heap.Ns env.globals mg from hg ▸ T.g.keeps F.keep) (mg_of X T.g e) h) hd
end
section
variable {prog : Program} {w : World} {A : Around} {E : Value → Shared → Prop} {s : Shared} {sz a n : Nat} {Fv : Nat → Value → Prop} {Q : Value → Shared → Prop}
theorem join_gen {sep : Str} {t : Tok} (X : GenH prog w A sz a n Fv s) (G : AllBare s.gens) (tx : Nat → Str) (htx : ∀ j v, Fv j v → ∃ u, v = .str (tx j) u) (hok : JoinOk sep ((List.range n).map tx) = true)
    (hQ : ∀ h' g' tk' t', AllBare g' → (∀ b o, b < sz → s.heap.get? b = some o → h'.get? b = some o) → Q (.str (Txt.join sep ((List.range n).map tx)) t') { s with heap := h', gens := g', toks := tk' })
    (hsz : n ≤ 1000000) : wpAny (model prog w) A (call (.builtin "str.join") [.str sep t, .ref a]) Q E s := by
  obtain ⟨fp, wr, g, St, W4, hst, hT, ha, hfp, hwr⟩ := X
  refine SC.joinGen W4.in4_2 hT hst hfp ha (fun j v hv => let ⟨u, e⟩ := htx j v hv; ⟨_, u, e⟩) (fun s' lt hm hacc => ?_) (by rw [sizeLine_eq]; lia)
  have hl : lt.map (·.1) = (List.range n).map tx := by
    have hsz : lt.length = n := by simpa [strValues] using hacc.1
    apply List.ext_getElem?
    intro j
    by_cases hj : j < n
    · have hj' : j < lt.length := hsz ▸ hj
      obtain ⟨u, hv⟩ := htx j _ (hacc.2 j (.str lt[j].1 lt[j].2) (by simp [strValues, List.getElem?_eq_getElem hj']))
      injection hv with h1 _
      simp [List.getElem?_eq_getElem hj', hj, h1]
    · rw [List.getElem?_eq_none (by simpa [hsz] using Nat.le_of_not_lt hj), List.getElem?_eq_none (by simpa using Nat.le_of_not_lt hj)]
  rw [hl]
  have gb := G.movedS hm
  refine ⟨hok, fun t' k => ?_⟩
  obtain ⟨h', g', d', tk', o'⟩ := s'
  have ed : d' = s.drawn := hm.drawn
  have eo : o' = s.os := hm.os
  subst ed; subst eo
  exact hQ h' g' k t' gb fun b o hb e => hm.heap b o (fun hw => by have := hwr b hw; (clear hsz; lia)) e
end
end Mine
namespace Mine
noncomputable def listOver (K : Frag) (C : Addr) : Bool := (clsIn K C).any fun cd => cd.mro == [.ref C, .type "list", .type "object"]
theorem list_passes (self : Value) : refuseLoop self "__setattr__" [.type "list", .type "object"] = pure () := by kernel_rfl
section
variable {prog : Program} {w : World} {A : Around} {E : Value → Shared → Prop} {s : Shared} {K : Frag} {x C dx L : Addr} {h₀ : Heap} {m : Str → Option Value} {news news' : List (Addr × Obj)} {ox : Obj} {es es' : List DictEntry} {n n' : Nat} {name : Str} {v : Value}
theorem setL {Q : Unit → Shared → Prop} (F : Fr h₀ L s.heap m) (X₀ : K.In h₀) (N : News h₀ L s.heap news) (I : InstAt s.heap x ox C (some (dictOf es n))) (hd : ox.dict = some dx)
    (hs : findIn K (.ref C) "__setattr__" = some (some (.builtin "object.__setattr__"))) (hp : listOver K C = true) (ht : takerIn K C name = some none) (hh : hasDictIn K C = true) (hl : (getL name es).isSome = true)
    (e : (putL name (PyData.keyHash w.params name) (.str name (s.toks + 1)) v es, putN name es n) = (es', n')) (U : Upd dx (dictOf es n) (dictOf es' n') news news') (hz : es'.length ≤ 1000)
    (h : ∀ h', Fr h₀ L h' m → News h₀ L h' news' → Q () { s with heap := h', toks := s.toks + 2 }) :
    wpAny (model prog w) A (setAttr (.ref x) name v) Q E s := by
  obtain ⟨pre, post, rfl, rfl, n1, n2⟩ := U.split
  obtain ⟨sh, sg, sd, st, so⟩ := s
  dsimp only at F N I e h
  obtain ⟨e1, e2⟩ := Prod.mk.inj e
  have X := X₀.keeps F.keep
  have SF := PySem.F.store_object
  obtain ⟨cd, hc, hd'⟩ := any_some hh
  have hmro : cd.mro = [.ref C, .type "list", .type "object"] := by
    unfold listOver at hp
    rw [hc] at hp
    exact beq_iff_eq.mp hp
  have sub : Looks (model prog w) sh (isInstance (.ref x) (.type "object")) true := I.type.andThen (looks_mroIn X (by unfold mroIn; rw [hc, Option.bind_some, hmro]; rfl))
  have hm : Looks (model prog w) sh (mroOf (.ref C)) [.ref C, .type "list", .type "object"] := hmro ▸ (looks_clsIn X hc).andThen .now
  obtain ⟨attr, ha, hr⟩ := Option.bind_eq_some_iff.mp ht
  have L3 : Looks (model prog w) sh (Builtin.ObjectAttr.storeTaker? attr) none := by
    cases attr with
    | none => cases hr; exact .now
    | some a =>
      obtain ⟨b, hb, q⟩ := Option.map_eq_some_iff.mp hr
      refine (looks_takesIn X hb).andThen ?_
      cases b with
      | true => cases q
      | false => exact .now
  have e' : Obj.putName name (PyData.keyHash w.params name) (.str name (st + 1)) v (dictOf es n) = dictOf es' n' := by rw [putName_dict, e1, e2]
  obtain ⟨U1, U2⟩ := news_upd (f := Obj.putName name (PyData.keyHash w.params name) (.str name (st + 1)) v) F N n1 n2 e' rfl
  have D := (N (dx, dictOf es n) (by simp)).1
  have D' := (U2 (dx, dictOf es' n') (by simp)).1
  obtain ⟨hx, hcl, hn, -⟩ := id I
  obtain ⟨oc, odi, oda, osl⟩ := ox
  dsimp only at hcl hd
  subst hcl hd
  refine set_plain X I hs (codeAny_call_builtin SF.slot.plain SF.entry (@check_slot (model prog w) _ _ _ "object.__setattr__" "object" "__setattr__" (.ref x) [.str name st, v] [] _ SF.kind SF.split sub (SF.args (.ref x) (.str name st) v) ?_))
  rw [osa_eq, refuse_eq]
  refine wpAny_bind (wpAny_bind (I.type.here (wpAny_bind (hm.here ?_))))
  rw [refuseLoop_ref, list_passes]
  refine wpAny_pure (wpAny_bind (I.type.here (wpAny_bind ((looks_findIn X ha).here (wpAny_bind (L3.here ?_))))))
  show wpAny _ _ (Builtin.ObjectAttr.storeInOwnDict (.ref x) (.ref C) (.str name st) name v _) _ _ _
  refine wpAny_bind (wpAny_pure (wpAny_bind (wpAny_bind (wpAny_loadPart hx (wpAny_bind ((looks_clsIn X hc).here ?_))))))
  rw [hd']
  refine wpAny_pure (a := some dx) (wpAny_bind (wpAny_pure (wpAny_bind ?_)))
  unfold nsSet
  refine wpAny_bind (wpAny_bind (wpAny_askSetting (wpAny_pure (wpAny_bind (wpAny_mkText (wpAny_bind (wpAny_loadPart D ?_)))))))
  have c : (!es.toArray.any (·.key.isStr name) && es.toArray.any (·.refKey)) = false := by
    rw [← Array.any_toList, ← Array.any_toList]
    unfold getL at hl
    split at hl
    · rename_i en he
      rw [List.any_eq_true.mpr ⟨en, List.mem_of_find?_eq_some he, List.find?_some he⟩]; rfl
    · split at hl
      · cases hl
      · rename_i z; rw [Bool.not_eq_true] at z; rw [z, Bool.and_false]
  dsimp only
  rw [aRefKeyMayBeTheName_at, c]
  refine wpAny_updatePart D ?_
  refine wpAny_bind (wpAny_lookBehind D' (pastItsLine_dict (by rw [List.size_toArray, sizeLine_eq]; (clear e2; lia))) ?_)
  exact wpAny_pure (h _ U1 U2)
end
end Mine
namespace Mine
theorem ty_append : typeOf (.builtin "list.append") = pure (.type "method_descriptor") := by show builtinType _ = _; rw [builtinType_eq_fast]; kernel_rfl
section
variable {prog : Program} {w : World} {M : Model} {A : Around} {E : Value → Shared → Prop} {s : Shared} {K : Frag} {x C L : Addr} {ox : Obj} {od : Option Obj} {h₀ : Heap} {m : Str → Option Value} {news news' : List (Addr × Obj)} {name : Str} {pl : Sem Bool}
theorem method_go {f : Value} {T : String} {Q : Value × List Value → Shared → Prop} (X : K.In s.heap) (I : InstAt s.heap x ox C od) (hga : findIn K (.ref C) "__getattribute__" = some (some (.builtin "list.__getattribute__"))) (hk : findIn K (.ref C) "__getattr__" = some none)
    (hf : findIn K (.ref C) name = some (some f)) (hT : Looks M s.heap (typeOf f) (.type T)) (hT2 : T = "function" ∨ T = "method_descriptor") (hs : shadowIn od name = some false) (h : Q (f, [.ref x]) s) :
    wpAny M A (getMethod (.ref x) name pl) Q E s := by
  have hcan : (Manifest.canonical "list.__getattribute__" != "object.__getattribute__") = false := by decide +kernel
  unfold getMethod specialOf
  refine wpAny_bind (wpAny_bind (I.type.here ((looks_findIn X hga).here ?_)))
  dsimp only
  rw [hcan, if_neg (by decide)]
  refine wpAny_bind (wpAny_bind (I.type.here ((looks_findIn X hk).here ?_)))
  refine wpAny_bind (wpAny_bind (I.type.here ((looks_findIn X hf).here (wpAny_bind (hT.here ?_)))))
  rw [if_neg (by rcases hT2 with rfl | rfl <;> decide +kernel)]
  refine wpAny_bind (wpAny_loadPart I.at_ ?_)
  have hd := I.dict
  cases e : ox.dict with
  | none => exact wpAny_bind (wpAny_rule (wpAny_pure h))
  | some dx =>
    cases od with
    | none => rw [e] at hd; exact hd.elim
    | some o =>
      rw [e] at hd
      obtain ⟨r, a, b⟩ := Option.map_eq_some_iff.mp hs
      refine wpAny_bind (wpAny_bind (wpAny_loadPart hd ?_))
      rw [nsLook_of a]
      refine wpAny_pure ?_
      rw [b]
      exact wpAny_bind (wpAny_rule (wpAny_pure h))
theorem method_bi {id : String} {Q : Value × List Value → Shared → Prop} (X : K.In s.heap) (I : InstAt s.heap x ox C od) (hga : findIn K (.ref C) "__getattribute__" = some (some (.builtin "list.__getattribute__"))) (hk : findIn K (.ref C) "__getattr__" = some none)
    (hf : findIn K (.ref C) name = some (some (.builtin id))) (hT : typeOf (.builtin id) = pure (.type "method_descriptor")) (hs : shadowIn od name = some false) (h : Q (.builtin id, [.ref x]) s) :
    wpAny M A (getMethod (.ref x) name pl) Q E s := method_go X I hga hk hf (Looks.of_pure hT) (.inr rfl) hs h
theorem method_fnL {f : Addr} {Q : Value × List Value → Shared → Prop} (X : K.In s.heap) (I : InstAt s.heap x ox C od) (hga : findIn K (.ref C) "__getattribute__" = some (some (.builtin "list.__getattribute__"))) (hk : findIn K (.ref C) "__getattr__" = some none)
    (hf : findIn K (.ref C) name = some (some (.ref f))) (ht : typeIn K (.ref f) = some (.type "function")) (hs : shadowIn od name = some false) (h : Q (.ref f, [.ref x]) s) :
    wpAny M A (getMethod (.ref x) name pl) Q E s := method_go X I hga hk hf (looks_typeIn X ht) (.inl rfl) hs h
theorem get_valueL {expr : Bool} {v : Value} {Q : Value → Shared → Prop} (X : K.In s.heap) (I : InstAt s.heap x ox C od) (hga : findIn K (.ref C) "__getattribute__" = some (some (.builtin "list.__getattribute__"))) (hk : findIn K (.ref C) "__getattr__" = some none) (hm : mroIn K C (.type "list") = some true)
    (hf : findObj K C od name = some (.value v)) (hh : handedIn v = true) (h : Q v { s with toks := s.toks + 1 }) : wpAny (model prog w) A (getAttr (.ref x) name expr) Q E s := by
  obtain ⟨sh, sg, sd, st, so⟩ := s
  have L0 := I.type (M := model prog w)
  have L1 := looks_findIn (M := model prog w) X hga
  have L2 := looks_findIn (M := model prog w) X hk
  unfold getAttr getAttrBy
  refine wpAny_bind (wpAny_mkText (wpAny_holding (wpAny_bind (L0.at (wpAny_bind (L1.at ?_))))))
  show wpAny _ _ (getAttrByItsOwn (.ref x) (.str name st) (.ref C) (.builtin "list.__getattribute__") true expr) _ _ _
  unfold getAttrByItsOwn hookBefore callGetattribute boundAndCalled
  rw [if_pos (show onTheHeap (.ref C) = true from rfl)]
  refine wpAny_bind (L2.at ?_)
  rw [if_neg (show ¬ (expr && onTheHeap (.builtin "list.__getattribute__")) = true by cases expr <;> decide)]
  refine wpAny_bind (wpAny_attempt (wpAny_holding ?_))
  refine wpAny_bind (wpAny_of_eq (F.slot_list_getattribute.bind _) ?_)
  refine call_bi (n := "__getattribute__") (s := ⟨sh, sg, sd, st + 1, so⟩) X I hm (by first | exact .inl (by decide +kernel) | exact .inr (by decide +kernel)) (by decide +kernel) (by decide +kernel) F.entry_list_ga (F.args_list_getattribute_2 _ _) ?_
  unfold Builtin.«object.__getattribute__»
  refine wpAny_bind (wpAny_of_eq (a := (.ref x, [.str name st])) (by first | rfl | kernel_rfl) ?_)
  dsimp only
  refine wpAny_bind (wpAny_of_eq (a := name) (by first | rfl | kernel_rfl) ?_)
  refine wpAny_bind (L0.at (wpAny_bind ((looks_find (M := model prog w) X I hf).at ?_)))
  refine wpAny_pure ⟨_, rfl, ?_⟩
  show wpAny _ _ (handedOut v) _ _ _
  rw [handedOut_of hh]; exact wpAny_pure h
theorem get_ownL {expr : Bool} {v : Value} {Q : Value → Shared → Prop} {attr : Option Value} {es : List DictEntry} {n : Nat} (F : Fr h₀ L s.heap m) (X₀ : K.In h₀) (I : InstAt s.heap x ox C (some (dictOf es n))) (hga : findIn K (.ref C) "__getattribute__" = some (some (.builtin "list.__getattribute__"))) (hk : findIn K (.ref C) "__getattr__" = some none) (hm : mroIn K C (.type "list") = some true)
    (hh : hasDictIn K C = true) (ha : findIn K (.ref C) name = some attr) (hn : noGet K attr = true) (hl : getL name es = some (some v)) (hv : handedIn v = true) (h : Q v { s with toks := s.toks + 1 }) :
    wpAny (model prog w) A (getAttr (.ref x) name expr) Q E s :=
  get_valueL (X₀.keeps F.keep) I hga hk hm (findObj_own hh ha hn hl) hv h
theorem seq_upd {c : Addr} {o o' : Obj} {xs : Array Value} {n : Nat} {f : Array Value → Array Value} {Q : Unit → Shared → Prop} (F : Fr h₀ L s.heap m) (N : News h₀ L s.heap news) (U : Upd c o o' news news') (hd : o.data = .seq xs n) (e : Obj.mapSeq f o = o') (h1 : xs.size ≤ 1000000) (h2 : (f xs).size ≤ 1000001)
    (h : ∀ h', Fr h₀ L h' m → News h₀ L h' news' → Q () { s with heap := h' }) : wpAny M A (updateSeq c f) Q E s := by
  obtain ⟨pre, post, rfl, rfl, n1, n2⟩ := U.split
  have hf : o'.isFreed = false := by
    obtain ⟨_, _, dd, _⟩ := o
    cases hd; subst e; rfl
  obtain ⟨U1, U2⟩ := news_upd (f := Obj.mapSeq f) F N n1 n2 e hf
  exact wpAny_updateSeq (N (c, o) (by simp)).1 hd (h _ U1 U2) (by rw [sizeLine_eq]; (clear h2; lia)) (by rw [sizeLine_eq]; (clear h1; lia))
theorem append_bi {c : Addr} {o o' : Obj} {vs : List Value} {n : Nat} {v : Value} {Q : Value → Shared → Prop} (F : Fr h₀ L s.heap m) (X₀ : K.In h₀) (N : News h₀ L s.heap news) (I : InstAt s.heap c o C od) (hm : mroIn K C (.type "list") = some true)
    (hd : o.data = .seq vs.toArray n) (e : Obj.mapSeq (·.push v) o = o') (U : Upd c o o' news news') (hz : vs.length < 1000000) (h : ∀ h', Fr h₀ L h' m → News h₀ L h' news' → Q .none { s with heap := h' }) :
    wpAny (model prog w) A (call (.builtin "list.append") [.ref c, v]) Q E s := by
  refine call_bi (n := "append") (X₀.keeps F.keep) I hm (.inl (by decide +kernel)) (by decide +kernel) (by decide +kernel) entry_list_append (args_list_append _ _) ?_
  unfold Builtin.«list.append»
  refine wpAny_bind (wpAny_of_eq (a := (.ref c, v)) (by first | rfl | kernel_rfl) ?_)
  dsimp only
  refine wpAny_bind ?_
  show wpAny _ _ (updateSeq c _) _ _ s
  exact seq_upd F N U hd e (by simp; lia) (by simp; omega) fun h' F' N' => wpAny_pure ⟨_, rfl, h h' F' N'⟩
theorem pop_sig : ∃ sig, Manifest.signature? "list.pop" = some sig ∧ ∀ (nm : String) (x : Addr), (nm != "*") = true → Bind.checkArgs "list.pop" { sig with full := nm } ⟨[.ref x], []⟩ = pure () :=
  ⟨(Manifest.signature? "list.pop").get (by decide +kernel), by simp, fun nm x h => by
    unfold Bind.checkArgs Bind.printed
    simp -iota only [h, if_true]
    kernel_rfl⟩
theorem dotted (p q : String) : (toString p ++ toString "." ++ toString q != "*") = true := by
  rw [bne_iff_ne]
  intro h
  have h2 := congrArg String.toList h
  have h3 : '.' ∈ (toString p ++ toString "." ++ toString q).toList := by simp [toString]
  rw [h2] at h3
  simp at h3
theorem check_lpop {c : Addr} {o : Obj} {Q : Unit → Shared → Prop} (X : K.In s.heap) (I : InstAt s.heap c o C od) (hm : mroIn K C (.type "module") = some false) (ht : typeIn K (.ref C) = some (.type "type")) (hnc : ∀ k, o.data ≠ .cls k) (h : Q () s) :
    wpAny M A (checkBoundCall "list.pop" ⟨[.ref c], []⟩) Q E s := by
  unfold checkBoundCall
  obtain ⟨sig, hs, pop_args⟩ := pop_sig
  have hI : Looks M s.heap (isInstance (.ref c) (.type "module")) false := I.type.andThen (looks_mroIn X hm)
  have hk : builtinKind "list.pop" = some .method := by decide +kernel
  have hv : Manifest.varargsMethods.contains "list.pop" = false := by decide +kernel
  rw [hs, hk]
  dsimp only
  rw [if_neg (by decide)]
  refine wpAny_bind (hI.here ?_)
  rw [hv, if_neg (by decide)]
  obtain ⟨sh, sg, sd, st, so⟩ := s
  refine wpAny_bind (ks_wpAny_isType_inst I.at_ hnc ?_)
  rw [if_neg (by decide)]
  refine wpAny_bind (I.type.here ?_)
  cases hc : clsIn K C with
  | none => unfold mroIn at hm; rw [hc] at hm; cases hm
  | some cd =>
    refine wpAny_bind ((looks_clsIn X hc).here ?_)
    refine wpAny_bind ((looks_typeIn X ht).here ?_)
    rw [if_pos (by decide)]
    rw [pop_args _ _ (dotted _ _)]
    exact wpAny_pure h
theorem last_pop (vs : List Value) (v : Value) : ((vs ++ [v]).toArray.eraseIdxIfInBounds vs.length) = vs.toArray := by
  apply Array.toList_inj.mp
  simp [Array.eraseIdxIfInBounds, List.eraseIdx_append_of_length_le]
theorem pop_bnd {c q : Addr} {o o' : Obj} {vs : List Value} {n : Nat} {v : Value} {Q : Value → Shared → Prop} (F : Fr h₀ L s.heap m) (X₀ : K.In h₀) (N : News h₀ L s.heap news) (hq : s.heap.get? q = some (bnd "builtin_function_or_method" "list.pop" c)) (I : InstAt s.heap c o C od)
    (hm : mroIn K C (.type "module") = some false) (ht : typeIn K (.ref C) = some (.type "type"))
    (hd : o.data = .seq (vs ++ [v]).toArray n) (e : Obj.mapSeq (fun _ => vs.toArray) o = o') (U : Upd c o o' news news') (hz : vs.length < 1000000) (h : ∀ h', Fr h₀ L h' m → News h₀ L h' news' → Q v { s with heap := h' }) :
    wpAny (model prog w) A (call (.ref q) []) Q E s := by
  refine bnd_call (B := Builtin.«list.pop») hq (by decide) (by decide) (fun h => check_lpop (X₀.keeps F.keep) I hm ht (fun k q => by rw [hd] at q; cases q) h) (entryFor_of_tree (by kernel_rfl)) quiet_lpop fun A' => ?_
  unfold Builtin.«list.pop»
  refine wpAny_bind (wpAny_of_eq (a := (.ref c, [])) (by first | rfl | kernel_rfl) ?_)
  dsimp only
  refine wpAny_bind (wpAny_pure ?_)
  rw [if_neg (by decide)]
  refine wpAny_bind (items_at I.at_ hd ?_)
  rw [if_neg (by simp)]
  have ei : ((seqIndex? (-1) (vs ++ [v]).toArray.size).bind fun k => (vs ++ [v]).toArray[k]?.map (k, ·)) = some (vs.length, v) := by
    have e1 : seqIndex? (-1) (vs ++ [v]).toArray.size = some vs.length := by
      unfold seqIndex?
      simp
      try lia
    rw [e1]
    simp
  rw [ei]
  dsimp only
  refine wpAny_bind ?_
  show wpAny _ _ (updateSeq c _) _ _ s
  have e3 : Obj.mapSeq (fun xs => xs.eraseIdxIfInBounds vs.length) o = o' := by
    rw [← e]
    obtain ⟨oc, odi, oda, osl⟩ := o
    cases hd
    simp only [Obj.mapSeq, last_pop]
  exact seq_upd F N U hd e3 (by simp; lia) (by rw [last_pop]; simp; lia) fun h' F' N' => wpAny_pure ⟨_, rfl, h h' F' N'⟩
theorem init_bnd {c q : Addr} {o o' : Obj} {n : Nat} {Q : Value → Shared → Prop} (F : Fr h₀ L s.heap m) (N : News h₀ L s.heap news) (hq : s.heap.get? q = some (bnd "method-wrapper" "list.__init__" c)) (ho : s.heap.get? c = some o)
    (hd : o.data = .seq #[] n) (e : Obj.mapSeq (fun _ => #[]) o = o') (U : Upd c o o' news news') (h : ∀ h', Fr h₀ L h' m → News h₀ L h' news' → Q .none { s with heap := h' }) :
    wpAny (model prog w) A (call (.ref q) []) Q E s := by
  refine bnd_call (B := Builtin.«list.__init__») hq (by decide) (by decide) (fun h => wpAny_of_eq (check_linit c) h) (entryFor_of_tree (by kernel_rfl)) quiet_linit fun A' => ?_
  unfold Builtin.«list.__init__»
  simp only [List.isEmpty_nil, Bool.not_true, Bool.false_eq_true, if_false, List.length_nil, Nat.not_lt_zero]
  refine wpAny_bind (items_at ho hd ?_)
  refine wpAny_bind ?_
  show wpAny _ _ (updateSeq c _) _ _ s
  exact seq_upd F N U hd e (by simp) (by simp) fun h' F' N' => wpAny_bind (wpAny_letGo (wpAny_pure ⟨_, rfl, h h' F' N'⟩))
end
end Mine
namespace Mine
noncomputable abbrev ckd (c : Str × Str) : List Pv := [.s c.1, .s c.2]
noncomputable def clen (c : Str × Str) : Int := ((c.1.length + c.2.length : Nat) : Int)
noncomputable def tlen (cs : List (Str × Str)) : Int := (cs.map clen).sum
noncomputable def cone (c : Str × Str) : Str := Txt.join (Str.ofString "") [c.1, c.2]
noncomputable def ctxt (cs : List (Str × Str)) : Str := Txt.join (Str.ofString "") (cs.map cone)
noncomputable abbrev sl (x : Str) := x.cps.toList
noncomputable def joinL {α : Type} (sep : List α) : List (List α) → List α
  | [] => []
  | [x] => x
  | x :: y :: r => x ++ sep ++ joinL sep (y :: r)
theorem foldl_join {α : Type} (sep : List α) : ∀ (ys : List (List α)) (acc : List α), ys.foldl (fun acc p => acc ++ sep ++ p) acc = joinL sep (acc :: ys)
  | [], acc => rfl
  | y :: r, acc => by
    rw [List.foldl_cons, foldl_join sep r]
    cases r with
    | nil => simp [joinL]
    | cons z r => simp [joinL, List.append_assoc]
theorem foldl_cps (sep : Str) : ∀ (ps : List Str) (acc : Array _), (ps.foldl (fun acc p => acc ++ sep.cps ++ p.cps) acc).toList = (ps.map sl).foldl (fun acc p => acc ++ sl sep ++ p) acc.toList
  | [], acc => rfl
  | p :: r, acc => by
    rw [List.foldl_cons, foldl_cps sep r, List.map_cons, List.foldl_cons]
    simp [sl]
theorem sl_join (sep : Str) (ys : List Str) : sl (Txt.join sep ys) = joinL (sl sep) (ys.map sl) := by
  cases ys with
  | nil => rfl
  | cons y r =>
    show ((r.foldl (fun acc p => acc ++ sep.cps ++ p.cps) y.cps)).toList = _
    rw [foldl_cps, foldl_join]
    rfl
theorem sl_len (x : Str) : (sl x).length = x.length := by simp [sl, Str.length]
theorem joinL_nil {α : Type} : ∀ ys : List (List α), joinL [] ys = ys.flatten
  | [] => rfl
  | [x] => by simp [joinL]
  | x :: y :: r => by rw [joinL, joinL_nil (y :: r)]; simp
theorem sl_cone (c : Str × Str) : sl (cone c) = sl c.1 ++ sl c.2 := by
  unfold cone
  rw [sl_join]
  show joinL [] _ = _
  rw [joinL_nil]; simp
theorem cone_len (c : Str × Str) : (cone c).length = c.1.length + c.2.length := by
  rw [← sl_len, sl_cone, List.length_append, sl_len, sl_len]
theorem sl_ctxt (cs : List (Str × Str)) : sl (ctxt cs) = (cs.map fun c => sl c.1 ++ sl c.2).flatten := by
  unfold ctxt
  rw [sl_join]
  show joinL [] _ = _
  rw [joinL_nil, List.map_map]
  congr 1
  exact List.map_congr_left fun c _ => sl_cone c
theorem clen_nn (c : Str × Str) : 0 ≤ clen c := Int.natCast_nonneg _
theorem tlen_nn : ∀ cs : List (Str × Str), 0 ≤ tlen cs
  | [] => by simp [tlen]
  | c :: r => by have := tlen_nn r; have := clen_nn c; simp only [tlen, List.map_cons, List.sum_cons] at *; lia
theorem take_le (cs : List (Str × Str)) (j : Nat) : 0 ≤ ((cs.map clen).take j).sum ∧ ((cs.map clen).take j).sum ≤ tlen cs := by
  induction cs generalizing j with
  | nil => simp [tlen]
  | cons c r ih =>
    cases j with
    | zero => simp only [List.take_zero, List.sum_nil]; exact ⟨Int.le_refl _, tlen_nn _⟩
    | succ j =>
      have := ih j
      have := clen_nn c
      simp only [tlen, List.map_cons, List.take_succ_cons, List.sum_cons] at *
      lia
theorem clen_le {cs : List (Str × Str)} {c : Str × Str} (h : c ∈ cs) : clen c ≤ tlen cs := by
  induction cs with
  | nil => cases h
  | cons d r ih =>
    have h1 := tlen_nn r
    have h2 := clen_nn d
    simp only [tlen, List.map_cons, List.sum_cons] at *
    rcases List.mem_cons.mp h with rfl | h
    · (clear h2; lia)
    · have := ih h; (clear h1; lia)
theorem pvs_two {vs : List Value} {a b : Pv} (p : PvsAre vs [a, b]) : ∃ v1 v2, vs = [v1, v2] := by
  cases p with
  | cons _ p => cases p with
    | cons _ p => cases p; exact ⟨_, _, rfl⟩
theorem TupAt.pair {h : Heap} {v : Value} {c : Str × Str} (x : TupAt h v (ckd c)) : ∃ T t1 t2, v = .ref T ∧ h.IsTuple T #[.str c.1 t1, .str c.2 t2] := by
  obtain ⟨a, vs, n, rfl, g, p⟩ := x
  obtain ⟨t1, r1, rfl, p1⟩ := pvs_s p
  obtain ⟨t2, r2, rfl, p2⟩ := pvs_s p1
  obtain rfl := pvs_nil p2
  exact ⟨a, _, _, rfl, _, g, rfl, _, rfl⟩
theorem choose_ck {h : Heap} {vs : List Value} {cs : List (Str × Str)} (A : AllAt (TupAt h) vs (cs.map ckd)) :
    ∃ (Ts : Nat → Addr) (ta tb : Nat → Tok), ∀ j (c : Str × Str), cs[j]? = some c → vs[j]? = some (Value.ref (Ts j)) ∧ h.IsTuple (Ts j) #[Value.str c.1 (ta j), Value.str c.2 (tb j)] := by
  have one : ∀ j, ∃ q : Addr × Tok × Tok, ∀ c : Str × Str, cs[j]? = some c → vs[j]? = some (Value.ref q.1) ∧ h.IsTuple q.1 #[Value.str c.1 q.2.1, Value.str c.2 q.2.2] := fun j => by
    by_cases hj : j < cs.length
    · obtain ⟨v, hv, tv⟩ := A.get (i := j) (by simpa using hj)
      have e : (cs.map ckd)[j]'(by simpa using hj) = ckd cs[j] := by simp
      rw [e] at tv
      obtain ⟨T, t1, t2, rfl, ht⟩ := tv.pair
      refine ⟨(T, t1, t2), fun c hc => ?_⟩
      rw [List.getElem?_eq_getElem hj] at hc
      cases hc
      exact ⟨hv, ht⟩
    · exact ⟨(0, 0, 0), fun c hc => by rw [List.getElem?_eq_none (by lia)] at hc; cases hc⟩
  obtain ⟨f, hf⟩ := Classical.skolem.mp one
  exact ⟨fun j => (f j).1, fun j => (f j).2.1, fun j => (f j).2.2, hf⟩
theorem preSum_ck (cs : List (Str × Str)) (j : Nat) : preSum (fun i => (cs.map clen).getD i 0) j = ((cs.map clen).take j).sum := preSum_getD _ _
theorem ne_none {α : Type} {x : Option α} {o : α} (e : x = some o) (k : x = none) : False := by rw [e] at k; cases k
theorem keep3 {a c d : Addr} {oa oc od : Obj} {ys : List Addr} {h g h' : Heap} (ha : h.get? a = some oa) (hc : h.get? c = some oc) (hd : h.get? d = some od) (KP : Keep (List.map Prod.fst [(a, oa), (c, oc), (d, od)]) h g) (kg : ∀ b o, g.get? b = some o → h'.get? b = some o)
    (h0 : a ∉ ys → h'.get? a = some oa) (h1 : c ∉ ys → h'.get? c = some oc) (h2 : d ∉ ys → h'.get? d = some od) : Keep ys h h' :=
  keep_of (D := [(a, oa), (c, oc), (d, od)]) (fun q hq => by rcases List.mem_cons.mp hq with rfl | hq; exact ha; rcases List.mem_cons.mp hq with rfl | hq; exact hc; rw [List.mem_singleton.mp hq]; exact hd) KP kg fun q hq hn => by
    rcases List.mem_cons.mp hq with rfl | hq
    · exact h0 hn
    · rcases List.mem_cons.mp hq with rfl | hq
      · exact h1 hn
      · rw [List.mem_singleton.mp hq] at hn ⊢; exact h2 hn
theorem cone_sum : ∀ cs : List (Str × Str), ((((cs.map cone).map (·.length)).sum : Nat) : Int) = tlen cs
  | [] => rfl
  | c :: r => by
    have := cone_sum r
    simp only [List.map_cons, List.sum_cons, tlen, clen, cone_len] at *
    lia
theorem cone_ok {cs : List (Str × Str)} (h : tlen cs ≤ 1000000) : JoinOk (Str.ofString "") (cs.map cone) = true :=
  joinOk_of (by have := cone_sum cs; have e : (Str.ofString "").length = 0 := rfl; rw [e, Nat.mul_zero]; (clear e; lia))
section
variable {g h h' : Heap} {L a b : Addr} {o o' : Obj} {m : Str → Option Value} {D : List Addr} {news rest : List (Addr × Obj)} {p : Addr × Obj}
theorem News.re_keep (N : News g L h news) (k : Keep D h h') (hm : p ∈ news) (hn : p.1 ∉ D) (r : News g L h' rest) : News g L h' (p :: rest) := fun q hq => by
  rcases List.mem_cons.mp hq with rfl | hq
  · exact ⟨k _ _ hn (N _ hm).1, (N _ hm).2⟩
  · exact r q hq
theorem News.re_new (N : News g L h news) (hm : (a, o) ∈ news) (ha : h'.get? a = some o') (r : News g L h' rest) : News g L h' ((a, o') :: rest) := fun q hq => by
  rcases List.mem_cons.mp hq with rfl | hq
  · exact ⟨ha, (N _ hm).2⟩
  · exact r q hq
theorem off1 {x y : Nat} (h : x ≠ y) : (x : Addr) ∉ ([y] : List Addr) := fun q => h (List.mem_singleton.mp q)
theorem off2 {x y z : Nat} (h : x ≠ y) (k : x ≠ z) : (x : Addr) ∉ ([y, z] : List Addr) := fun q => by
  rcases List.mem_cons.mp q with q | q
  · exact h q
  · exact k (List.mem_singleton.mp q)
theorem Fr.re1 (F : Fr g L h m) (N : News g L h news) (k : Keep [a] h h') (hm : (a, o) ∈ news) : Fr g L h' m :=
  Mine.Fr.kept F k (fun x hx => by rw [List.mem_singleton.mp hx]; exact (N _ hm).2.2) fun q => (N _ hm).2.1 (List.mem_singleton.mp q).symm
theorem Fr.re2 (F : Fr g L h m) (N : News g L h news) (k : Keep [a, b] h h') (hm : (a, o) ∈ news) (hm2 : (b, o') ∈ news) : Fr g L h' m :=
  Mine.Fr.kept F k (fun x hx => by rcases List.mem_cons.mp hx with rfl | hx; exact (N _ hm).2.2; rw [List.mem_singleton.mp hx]; exact (N _ hm2).2.2) fun q => by
    rcases List.mem_cons.mp q with q | q
    · exact (N _ hm).2.1 q.symm
    · exact (N _ hm2).2.1 (List.mem_singleton.mp q).symm
theorem keep4 {b c d : Addr} {oa ob oc od : Obj} {ys : List Addr} (ha : h.get? a = some oa) (hb : h.get? b = some ob) (hc : h.get? c = some oc) (hd : h.get? d = some od) (KP : Keep (List.map Prod.fst [(a, oa), (b, ob), (c, oc), (d, od)]) h g) (kg : ∀ b o, g.get? b = some o → h'.get? b = some o)
    (h0 : a ∉ ys → h'.get? a = some oa) (h1 : b ∉ ys → h'.get? b = some ob) (h2 : c ∉ ys → h'.get? c = some oc) (h3 : d ∉ ys → h'.get? d = some od) : Keep ys h h' :=
  keep_of (D := [(a, oa), (b, ob), (c, oc), (d, od)]) (fun q hq => by rcases List.mem_cons.mp hq with rfl | hq; exact ha; rcases List.mem_cons.mp hq with rfl | hq; exact hb; rcases List.mem_cons.mp hq with rfl | hq; exact hc; rw [List.mem_singleton.mp hq]; exact hd) KP kg fun q hq hn => by
    rcases List.mem_cons.mp hq with rfl | hq
    · exact h0 hn
    · rcases List.mem_cons.mp hq with rfl | hq
      · exact h1 hn
      · rcases List.mem_cons.mp hq with rfl | hq
        · exact h2 hn
        · rw [List.mem_singleton.mp hq] at hn ⊢; exact h3 hn
end
end Mine
namespace Mine
section
variable {prog : Program} {w : World} {A : Around} {E : Value → Shared → Prop} {s : Shared} {K : Frag} {x C f : Addr} {ox : Obj} {od : Option Obj}
theorem truthy_lenK {Q : Bool → Shared → Prop} (X : K.In s.heap) (I : InstAt s.heap x ox C od) (hb : findIn K (.ref C) "__bool__" = some none) (hs : findIn K (.ref C) "__len__" = some (some (.ref f))) (hf : isFn K (.ref f) = true)
    (h : wpAny (model prog w) A.in1 (call (.ref f) [.ref x]) (fun v s' => match v with | .int n _ => (0 ≤ n ∧ n < 2 ^ 63) ∧ Q (n != 0) { s' with toks := s'.toks + 1 } | _ => False) E s) : wpAny (model prog w) A (truthy (.ref x)) Q E s := by
  unfold truthy
  refine wpAny_bind (m := callSpecial? (.ref x) (Str.ofString "__bool__")) (wpAny_bind (wpAny_bind (I.type.here ((looks_findIn X hb).here (wpAny_pure ?_)))))
  refine wpAny_bind (wpAny_bind (I.type.here ((looks_findIn X hs).here ?_)))
  refine wpAny_bind (m := runValue (.builtin "len" ⟨[.ref x], []⟩)) (wpAny_runValue (codeAny_builtin entry_len ?_))
  rw [Around.under_plainId plain_len _]
  unfold Builtin.«len»
  refine wpAny_bind (m := oneArg "len" _) (wpAny_pure ?_)
  refine wpAny_bind (m := callSpecial? (.ref x) (Str.ofString "__len__")) (special_fn X I hs (beq_iff_eq.mp hf) (wpAny_mono h (fun r s' hr => ?_) fun _ _ y => y))
  cases r <;> first | exact hr.elim | skip
  rename_i n u
  obtain ⟨⟨h0, h1⟩, hq⟩ := hr
  refine wpAny_bind (wpAny_holding (wpAny_pure ?_))
  refine wpAny_bind (wpAny_letGo ?_)
  show wpAny _ _ (if n < 0 then _ else _) _ _ _
  rw [if_neg (by lia)]
  show wpAny _ _ (if n ≥ 2 ^ 63 then _ else _) _ _ _
  rw [if_neg (by lia)]
  exact wpAny_bind (wpAny_mkInt (wpAny_pure (wpAny_pure hq)))
end
end Mine
namespace Mine
section
variable {prog : Program} {w : World} {A : Around} {E : Value → Shared → Prop} {s : Shared} {K : Frag} {x C L : Addr} {ox : Obj} {od : Option Obj} {h₀ : Heap} {m : Str → Option Value} {news news' : List (Addr × Obj)}
theorem getItem_bi {v : Value} {Q : Value → Shared → Prop} (X : K.In s.heap) (I : InstAt s.heap x ox C od) (hm : mroIn K C (.type "list") = some true) (hq : noSeq K C = true) (hs : findIn K (.ref C) "__getitem__" = some (some (.builtin "list.__getitem__")))
    (ht : wpAny (model prog w) A.in1 (Builtin.«list.__getitem__» ⟨[.ref x, v], []⟩) (fun fin s' => ∃ r, fin = .done (.ret r) ∧ Q r s') E s) : wpAny (model prog w) A (getItem (.ref x) v) Q E s := by
  unfold getItem sequenceKey
  refine wpAny_holding (wpAny_bind (wpAny_bind (I.type.here ?_)))
  refine wpAny_bind ((anyM_none X hq).here ?_)
  rw [if_pos (show (!false) = true from rfl)]
  refine wpAny_pure (wpAny_bind (special_bi X I hs (slot_list_getitem.bind _) (call_bi (n := "__getitem__") X I hm (by first | exact .inl (by decide +kernel) | exact .inr (by decide +kernel)) (by decide +kernel) (by decide +kernel) entry_list_getitem (args_list_getitem _ _) (wpAny_mono ht (fun fin s' h => ?_) fun _ _ z => z))))
  obtain ⟨r, rfl, hr⟩ := h
  exact ⟨r, rfl, wpAny_pure hr⟩
theorem setItem_bi {i v : Value} {Q : Unit → Shared → Prop} (X : K.In s.heap) (I : InstAt s.heap x ox C od) (hm : mroIn K C (.type "list") = some true) (hq : noSeq K C = true) (hs : findIn K (.ref C) "__setitem__" = some (some (.builtin "list.__setitem__")))
    (ht : wpAny (model prog w) A.in1 (Builtin.«list.__setitem__» ⟨[.ref x, i, v], []⟩) (fun fin s' => ∃ r, fin = .done (.ret r) ∧ Q () s') E s) : wpAny (model prog w) A (setItem (.ref x) i v) Q E s := by
  unfold setItem sequenceKey
  refine wpAny_holding (wpAny_bind (wpAny_bind (I.type.here ?_)))
  refine wpAny_bind ((anyM_none X hq).here ?_)
  rw [if_pos (show (!false) = true from rfl)]
  refine wpAny_pure (wpAny_bind (special_bi X I hs (slot_list_setitem.bind _) (call_bi (n := "__setitem__") X I hm (by first | exact .inl (by decide +kernel) | exact .inr (by decide +kernel)) (by decide +kernel) (by decide +kernel) entry_list_setitem (args_list_setitem _ _ _) (wpAny_mono ht (fun fin s' h => ?_) fun _ _ z => z))))
  obtain ⟨r, rfl, hr⟩ := h
  exact ⟨r, rfl, wpAny_pure hr⟩
theorem sub_bi {value slice : PySem.Expr} {i : Value} {ops : List Value} {Q : Value → Shared → Prop} (X : K.In s.heap) (I : InstAt s.heap x ox C od) (hm : mroIn K C (.type "list") = some true) (hq : noSeq K C = true) (hs : findIn K (.ref C) "__getitem__" = some (some (.builtin "list.__getitem__")))
    (hsl : subscripted slice false (.ref x) i = operate ops (getItem (.ref x) i))
    (ht : wpAny (model prog w) A.in1 (Builtin.«list.__getitem__» ⟨[.ref x, i], []⟩) (fun fin s' => ∃ r, fin = .done (.ret r) ∧ Q r s') E s) : wpAny (model prog w) A (subscriptTail value slice (.ref x) i) Q E s := by
  unfold subscriptTail getitemInPython specialOf
  refine wpAny_bind (wpAny_bind (wpAny_bind (I.type.here ((looks_findIn X hs).here ?_))))
  have fin : wpAny (model prog w) A (subscripted slice false (.ref x) i) (fun r s₃ => wpAny (model prog w) A (letTemporaryGo value (.ref x) r >>= fun _ => pure r) Q E s₃) E s := by
    rw [hsl]
    refine wpAny_operating (getItem_bi X I hm hq hs (wpAny_mono ht (fun f s' h => ?_) fun _ _ z => z))
    obtain ⟨r, rfl, hr⟩ := h
    exact ⟨r, rfl, wpAny_bind (wpAny_letTemporaryGo (wpAny_pure hr))⟩
  first
    | exact wpAny_pure (wpAny_bind fin)
    | exact wpAny_bind (wpAny_pure (wpAny_bind fin))
    | exact wpAny_bind fin
end
theorem pick_from (vs : List Value) (i : Nat) : slicePick vs.toArray (some (i : Int)) none none = (vs.drop i).toArray := by
  have e : sliceBounds (some (i : Int)) none none vs.toArray.size = (((min i vs.toArray.size : Nat) : Int), ((vs.toArray.size : Nat) : Int), 1) := by
    simp only [sliceBounds, Option.getD_none, show (1 : Int) > 0 by decide, if_true, if_neg (show ¬ ((i : Int) < 0) by lia)]
    congr 1
    omega
  rw [kmk_pick_nat _ e]
  show ((vs.drop (min i vs.toArray.size)).take (vs.toArray.size - min i vs.toArray.size)).toArray = _
  rw [List.size_toArray, kmk_drop_min, List.take_of_length_le (by rw [List.length_drop]; omega)]
theorem cut_from (vs new : List Value) (i : Nat) (hi : i ≤ vs.length) : vs.toArray.extract 0 (sliceBounds (some (i : Int)) none none vs.toArray.size).1.toNat ++ new.toArray ++ vs.toArray.extract (max (sliceBounds (some (i : Int)) none none vs.toArray.size).1 (sliceBounds (some (i : Int)) none none vs.toArray.size).2.1).toNat vs.toArray.size = (vs.take i ++ new).toArray := by
  have e : sliceBounds (some (i : Int)) none none vs.toArray.size = ((i : Int), ((vs.length : Nat) : Int), 1) := by
    simp only [sliceBounds, Option.getD_none, show (1 : Int) > 0 by decide, if_true, if_neg (show ¬ ((i : Int) < 0) by (clear hi; lia)), List.size_toArray]
    congr 1
    lia
  rw [e]
  apply Array.toList_inj.mp
  simp
  have e2 : (max (i : Int) (vs.length : Int)).toNat = vs.length := by omega
  rw [e2]; simp
theorem cut_all (vs new : List Value) : vs.toArray.extract 0 (sliceBounds none none none vs.toArray.size).1.toNat ++ new.toArray ++ vs.toArray.extract (max (sliceBounds none none none vs.toArray.size).1 (sliceBounds none none none vs.toArray.size).2.1).toNat vs.toArray.size = new.toArray := by
  have e : sliceBounds none none none vs.toArray.size = (0, ((vs.length : Nat) : Int), 1) := by
    simp [sliceBounds]
  rw [e]
  apply Array.toList_inj.mp
  simp
noncomputable abbrev sliceO (lo hi : Value) : Obj := { cls := .type "slice", data := .fields #[lo, hi, .none] }
section
variable {prog : Program} {w : World} {A : Around} {E : Value → Shared → Prop} {s : Shared} {K : Frag} {c C L sl e : Addr} {o o' : Obj} {od : Option Obj} {h₀ : Heap} {m : Str → Option Value} {news news' : List (Addr × Obj)} {vs new : List Value} {n ne i : Nat} {ti : Tok}
theorem sub_from {value slice : PySem.Expr} {ops : List Value} {Q : Value → Shared → Prop} (F : Fr h₀ L s.heap m) (X₀ : K.In h₀) (N : News h₀ L s.heap news) (I : InstAt s.heap c o C od) (hm : mroIn K C (.type "list") = some true) (hq : noSeq K C = true) (hs : findIn K (.ref C) "__getitem__" = some (some (.builtin "list.__getitem__")))
    (hd : o.data = .seq vs.toArray n) (hsl : (sl, sliceO (.int (i : Int) ti) .none) ∈ news) (hz : vs.length < 1000000)
    (h : ∀ q h', Fr h₀ L h' m → News h₀ L h' ((q, listOf (vs.drop i).toArray 0) :: news) → (∀ p ∈ news, p.1 < q) → Q (.ref q) { s with heap := h' })
    (hsub : subscripted slice false (.ref c) (.ref sl) = operate ops (getItem (.ref c) (.ref sl)) := by with_unfolding_all rfl) : wpAny (model prog w) A (subscriptTail value slice (.ref c) (.ref sl)) Q E s := by
  refine sub_bi (X₀.keeps F.keep) I hm hq hs hsub (getitem_slice_tree I.at_ hd ⟨_, (N _ hsl).1, rfl, rfl⟩ (.int _ _) .none (by rw [List.size_toArray, sizeLine_eq]; lia) ⟨_, rfl, ?_⟩)
  rw [pick_from]
  obtain ⟨F', N', l'⟩ := ks_newsPush (s := s) (o := listOf (vs.drop i).toArray 0) F N rfl (Heap.get?_push_at rfl rfl) (fun b o e => Heap.get?_push_of_some _ e)
  exact h _ _ F' N' l'
theorem set_cut {lo : Option Int} {vl : Value} {Q : Unit → Shared → Prop} (F : Fr h₀ L s.heap m) (X₀ : K.In h₀) (N : News h₀ L s.heap news) (I : InstAt s.heap c o C od) (hm : mroIn K C (.type "list") = some true) (hq : noSeq K C = true) (hs : findIn K (.ref C) "__setitem__" = some (some (.builtin "list.__setitem__")))
    (hd : o.data = .seq vs.toArray n) (hsl : (sl, sliceO vl .none) ∈ news) (pl : IsPart vl lo) (he : (e, listOf new.toArray ne) ∈ news) (hce : c ≠ e) (hz : vs.length + new.length < 1000000)
    (ho' : Obj.mapSeq (fun xs => xs.extract 0 (sliceBounds lo none none vs.toArray.size).1.toNat ++ new.toArray ++ xs.extract (max (sliceBounds lo none none vs.toArray.size).1 (sliceBounds lo none none vs.toArray.size).2.1).toNat xs.size) o = o') (U : Upd c o o' news news')
    (h : ∀ h', Fr h₀ L h' m → News h₀ L h' news' → Q () { s with heap := h' }) : wpAny (model prog w) A (setItem (.ref c) (.ref sl) (.ref e)) Q E s := by
  refine setItem_bi (X₀.keeps F.keep) I hm hq hs (setitem_slice_tree I.at_ hd ⟨_, (N _ hsl).1, rfl, rfl⟩ pl .none (N _ he).1 rfl rfl hce (by simp; (clear hce; lia)) ⟨_, rfl, ?_⟩)
  obtain ⟨pre, post, rfl, rfl, n1, n2⟩ := U.split
  have hf : o'.isFreed = false := by
    obtain ⟨_, _, dd, _⟩ := o
    cases hd; subst ho'; rfl
  obtain ⟨U1, U2⟩ := news_upd (f := Obj.mapSeq fun xs => xs.extract 0 (sliceBounds lo none none vs.toArray.size).1.toNat ++ new.toArray ++ xs.extract (max (sliceBounds lo none none vs.toArray.size).1 (sliceBounds lo none none vs.toArray.size).2.1).toNat xs.size) F N n1 n2 ho' hf
  exact h _ U1 U2
end
theorem mapSeq_is {cls : Value} {dict : Option Addr} {sl : Array (Option Value)} {f : Array Value → Array Value} {xs ys : Array Value} {n : Nat} (h : f xs = ys) : ∃ k', Obj.mapSeq f ⟨cls, dict, .seq xs n, sl⟩ = ⟨cls, dict, .seq ys k', sl⟩ := by
  subst h; exact ⟨_, rfl⟩
end Mine
namespace Mine
open PySem.Builtin PySem.Builtin.ObjectAttr
noncomputable def makesInL (K : Frag) (C : Addr) : Bool := match K.lookup C with
  | some ⟨_, _, .cls cd, sl⟩ => !cd.abstract && !cd.hasDel && (sl.toList[4]?).join == some (.builtin "list.__new__") && !cd.mro.isEmpty && cd.mro.contains (.ref C) && cd.mro.contains (.type "list") &&
      specialIn K (.ref C) "__call__" == some (some (.builtin "type.__call__")) && instIn K (.ref C) (.type "type") == some true
  | _ => false
structure MakesL (M : Model) (h : Heap) (C : Addr) : Prop where
  obj : ∃ oc od cd sl, h.get? C = some ⟨oc, od, .cls cd, sl⟩ ∧ cd.abstract = false ∧ cd.hasDel = false ∧ cd.mro.isEmpty = false
  made : Looks M h (Bind.madeBy (.ref C)) (some "list.__new__")
  base : Looks M h (Bind.staticBase (.ref C)) (.ref C)
  self : Looks M h (isSubtype (.ref C) (.ref C)) true
  sub : Looks M h (isSubtype (.ref C) (.type "list")) true
  call : Looks M h (specialOf (.ref C) "__call__") (some (.builtin "type.__call__"))
  typ : Looks M h (isInstance (.ref C) (.type "type")) true
theorem makesL_of {K : Frag} {M : Model} {h : Heap} (X : K.In h) {C : Addr} (e : makesInL K C = true) : MakesL M h C := by
  unfold makesInL at e
  split at e
  · rename_i oc od cd sl ho
    simp only [Bool.and_eq_true, Bool.not_eq_true', beq_iff_eq] at e
    obtain ⟨⟨⟨⟨⟨⟨⟨e1, e2⟩, e3⟩, e4⟩, e5⟩, e6⟩, e7⟩, e8⟩ := e
    have hc : clsIn K C = some cd := by unfold clsIn; rw [ho]
    have hm : Looks M h (mroOf (.ref C)) cd.mro := (looks_clsIn X hc).andThen .now
    obtain ⟨c, l, hl⟩ : ∃ c l, cd.mro = c :: l := by cases q : cd.mro with | nil => rw [q] at e4; cases e4 | cons c l => exact ⟨c, l, rfl⟩
    have made : Looks M h (Bind.madeBy (.ref C)) (some "list.__new__") := by
      intro A Q E s k q
      unfold Bind.madeBy
      refine wpAny_bind (hm A _ E s k ?_)
      rw [hl, List.forIn_cons]
      refine wpAny_bind (wpAny_bind (wpAny_bind (wpAny_bind (wpAny_loadPart (k _ _ (X _ _ ho)) (wpAny_pure ?_)))))
      dsimp only
      rw [← Array.getElem?_toList, e3]
      exact wpAny_pure (wpAny_pure (wpAny_pure q))
    refine ⟨⟨oc, od, cd, sl, X _ _ ho, e1, e2, e4⟩, made, ?_, looks_mroIn X ?_, looks_mroIn X ?_, looks_specialIn X e7, looks_instIn X e8⟩
    · intro A Q E s k q
      unfold Bind.staticBase
      refine wpAny_bind (hm A _ E s k ?_)
      rw [hl, List.forIn_cons]
      exact wpAny_bind (wpAny_bind (wpAny_bind (made A _ E s k (wpAny_pure (wpAny_pure (wpAny_pure q))))))
    · unfold mroIn; rw [hc, Option.bind_some, if_neg (by rw [e4]; decide), e5]
    · unfold mroIn; rw [hc, Option.bind_some, if_neg (by rw [e4]; decide), e6]
  · cases e
noncomputable abbrev instL (C dx : Addr) : Obj := { cls := .ref C, dict := some dx, data := .seq #[] }
section
variable {prog : Program} {w : World} {A : Around} {K : Frag} {C : Addr} {R : Result → Shared → Prop} {h : Heap} {g : Array GenState} {d : Drawn} {t : Nat} {os : OsState}
theorem ln_kind : builtinKind "list.__new__" = some .builtinFn := by decide +kernel
theorem ln_split : splitId "list.__new__" = some ("list", "__new__") := by decide +kernel
theorem ln_sig : ∃ sig, Manifest.signature? "list.__new__" = some sig ∧ ∀ (C : Addr) (a : Value), Bind.checkArgs "list.__new__" sig ⟨[.ref C, a], []⟩ = pure () :=
  ⟨(Manifest.signature? "list.__new__").get (by decide +kernel), by simp, fun C a => by kernel_rfl⟩
theorem newL {a : Value} (Y : MakesL (model prog w) h C) (hq : R (.ok (.ret (.ref (h.objs.size + 1)))) ⟨(h.push emptyDict).push (instL C h.objs.size), g, d, t, os⟩) :
    codeAny (model prog w) A (.call (.builtin "list.__new__") ⟨[.ref C, a], []⟩) R ⟨h, g, d, t, os⟩ := by
  obtain ⟨⟨oc, od, cd, sl, hC, e1, e2, e4⟩, made, base, self, sub, call, typ⟩ := Y
  obtain ⟨sig, hs, args⟩ := ln_sig
  refine codeAny_call_builtin_code (Code.quiet_builtin _ (by decide +kernel)) ?_
  simp only [checkBuiltinCall, ln_kind, ln_split, hs]
  rw [args]
  refine wpAny_bind ?_
  refine ks_wpAny_isType_cls hC rfl ?_
  repeat (first | simp only [bne_self_eq_false, Bool.not_true, Bool.false_eq_true, if_false] | lk)
  refine codeAny_builtin_stack F.entry_list_new rfl fun p st => ?_
  rw [Around.under_plainId F.plain_list_new _]
  have hown := owner_list_new
  simp only [hown]
  refine wpAny_bind (ks_wpAny_isType_cls hC rfl ?_)
  repeat (first | simp only [bne_self_eq_false, Bool.not_true, Bool.false_eq_true, if_false] | lk)
  refine wpAny_load (Heap.get?_push_of_some _ (Heap.get?_push_of_some _ hC)) ?_
  refine wpAny_pure ?_
  rw [e2]
  refine wpAny_pure (wpAny_pure ?_)
  show R _ _
  rw [Heap.size_push]
  exact hq
theorem make_coreL {a init : Value} (Y : MakesL (model prog w) h C) (hi : Looks (model prog w) h (typeLookup (.ref C) "__init__") (some init))
    (hb : ∀ self, Looks (model prog w) h (bindSpecial init self) (init, [self]))
    (hq : codeAny (model prog w) (A.under (.builtin "type.__call__" ⟨[.ref C, a], []⟩)) (.call init ⟨[.ref (h.objs.size + 1), a], []⟩) (InitBack (h.objs.size + 1) R) ⟨(h.push emptyDict).push (instL C h.objs.size), g, d, t, os⟩) :
    codeAny (model prog w) A (.call (.ref C) ⟨[a], []⟩) R ⟨h, g, d, t, os⟩ := by
  have Y' := Y
  obtain ⟨⟨oc, od, cd, sl, hC, e1, e2, e4⟩, made, base, self, sub, call, typ⟩ := Y
  refine codeAny_of_tree ?_
  show wpAny _ _ (callAny (.ref C) _) _ _ _
  refine nd_load hC ?_
  show wpAny _ _ (callAny.viaDunder (.ref C) _) _ _ _
  unfold callAny.viaDunder
  refine wpAny_bind (call.at ?_)
  dsimp only
  rw [tc_bind]
  refine wpAny_bind (wpAny_pure (wpAny_bind (wpAny_pure ?_)))
  refine wpAny_pure (a := Fin.again (.call (.builtin "type.__call__") ⟨[.ref C, a], []⟩)) (And.intro rfl ?_)
  refine codeAny_call_builtin_at (Code.quiet_builtin _ (by decide +kernel)) entry_typeCall (check_slot tc_kind tc_split typ (tc_args _ _ _) ?_)
  unfold Builtin.«type.__call__»
  have hm : Looks (model prog w) h (mroOf (.ref C)) cd.mro := ((Looks.ld (part := none) hC).andThen .now).andThen .now
  repeat (first | simp only [e4, Bool.false_eq_true, if_false] | with_reducible refine wpAny_call ?_ | lk)
  refine newL Y' ?_
  have k : ∀ b o, h.get? b = some o → ((h.push emptyDict).push (instL C h.objs.size)).get? b = some o := fun b o e => Heap.get?_push_of_some _ (Heap.get?_push_of_some _ e)
  have hx : ((h.push emptyDict).push (instL C h.objs.size)).get? (h.objs.size + 1) = some (instL C h.objs.size) := by heap_get
  have t1 : Looks (model prog w) ((h.push emptyDict).push (instL C h.objs.size)) (typeOf (.ref (h.objs.size + 1))) (.ref C) := (Looks.ld hx).andThen .now
  have s1 := self.keeps k
  have i1 := hi.keeps k
  have b1 := (hb (.ref (h.objs.size + 1))).keeps k
  unfold isInstance callSpecial? specialOf
  repeat (first | with_reducible refine wpAny_call ?_ | lk)
  refine codeAny_mono hq fun r s' z => ?_
  rcases r with e | (v | _ | _ | _) <;> first | exact z | exact z.elim | skip
  obtain ⟨rfl, z⟩ := z
  exact wpAny_pure (wpAny_pure z)
end
section
variable {prog : Program} {w : World} {A : Around} {K : Frag} {C : Addr} {s : Shared} {h₀ : Heap} {L : Addr} {m : Str → Option Value} {news : List (Addr × Obj)} {E : Value → Shared → Prop} {Q : Value → Shared → Prop}
theorem call_list {a : Value} {fI : Addr} (F : Fr h₀ L s.heap m) (X₀ : K.In h₀) (N : News h₀ L s.heap news) (hm : makesInL K C = true) (hi : findIn K (.ref C) "__init__" = some (some (.ref fI))) (hf : isFn K (.ref fI) = true)
    (h : ∀ x dx h', Fr h₀ L h' m → News h₀ L h' ((x, instL C dx) :: (dx, dictOf [] 0) :: news) → (∀ p ∈ news, p.1 < dx) → dx < x → s.heap.objs.size ≤ dx →
      codeAny (model prog w) (A.under (.builtin "type.__call__" ⟨[.ref C, a], []⟩)) (.call (.ref fI) ⟨[.ref x, a], []⟩) (InitBack x fun r s' => match r with | .ok (.ret v) => Q v s' | .ok _ => False | .error e => E e s') { s with heap := h' }) :
    wpAny (model prog w) A (call (.ref C) [a]) Q E s := by
  have X := X₀.keeps F.keep
  obtain ⟨hh, g, d, t, os⟩ := s
  have N2 := (N.push F emptyDict).push (F.push _) (instL C hh.objs.size)
  rw [Heap.size_push] at N2
  refine wpAny_call (make_coreL (makesL_of X hm) (looks_findIn X hi) (fun self => bind_fn X self (beq_iff_eq.mp hf)) ?_)
  exact h _ hh.objs.size _ ((F.push _).push _) N2 (fun p hp => Heap.lt_size (N p hp).1) (Nat.lt_succ_self _) (Nat.le_refl _)
end
theorem under_make (dp un : Nat) (gd : Option (List Code)) (fr : List Env) (as : List Value) (C : Addr) : (amb dp un gd fr).under (.builtin "type.__call__" ⟨.ref C :: as, []⟩) = amb (dp + 1) (un + 1) gd fr := by first | rfl | kernel_rfl
end Mine
namespace Mine
section
variable {prog : Program} {w : World} {A : Around} {E : Value → Shared → Prop} {s : Shared} {a b : Value} {x y : Str × Str} {Q : Value → Shared → Prop}
theorem reads_ck {h : Heap} (z : TupAt h a (ckd x)) : Reads h a (.tuple [.str x.1, .str x.2]) [] := by
  obtain ⟨T, t1, t2, rfl, o, ho, hc, n, hd⟩ := z.pair
  exact reads_tuple_at ho hc hd (readsAll_cons_val (.str _ _) (readsAll_cons_val (.str _ _) .nil))
theorem ck_shaped {x : Str × Str} (h1 : PyData.strOk x.1 = true) (h2 : PyData.strOk x.2 = true) : SeqAt.shaped (.tuple [.str x.1, .str x.2]) = true := by
  simp [SeqAt.shaped, PyData.canLay0, PyData.depth, PyData.canLayAll0, PyData.depthAll, h1, h2]
theorem ck_mix (x y : Str × Str)   : SeqAt.noMix (.tuple [.str x.1, .str x.2]) (.tuple [.str y.1, .str y.2]) = true := by
  simp [SeqAt.noMix, SeqAt.noMixAll]
theorem ck_same (x y : Str × Str) : PySem.Spec.same (.tuple [.str x.1, .str x.2]) (.tuple [.str y.1, .str y.2]) = decide (x = y) := by
  obtain ⟨x1, x2⟩ := x
  obtain ⟨y1, y2⟩ := y
  simp only [PySem.Spec.same, PySem.Spec.sameAll, Prod.mk.injEq]
  by_cases h : x1 = y1 <;> by_cases h' : x2 = y2 <;> simp [h, h']
theorem ne_ck (hx : TupAt s.heap a (ckd x)) (hy : TupAt s.heap b (ckd y)) (x1 : PyData.strOk x.1 = true) (x2 : PyData.strOk x.2 = true) (y1 : PyData.strOk y.1 = true) (y2 : PyData.strOk y.2 = true) (hu : A.units + 64 < cLine) (h : Q (.bool (!decide (x = y))) s) : wpAny (model prog w) A (compareOp .NotEq a b) Q E s :=
  ne_dataH_same (reads_ck hx) (reads_ck hy) (ck_shaped x1 x2) (ck_shaped y1 y2) hu (ck_mix x y) (by rw [ck_same]; exact h)
end
end Mine
namespace Mine
section
variable {prog : Program} {w : World} {A : Around} {E : Value → Shared → Prop} {s : Shared} {K : Frag} {x C L f : Addr} {ox : Obj} {h₀ : Heap} {m : Str → Option Value} {news : List (Addr × Obj)} {name : Str} {es : List DictEntry} {n : Nat} {expr : Bool} {Q : Value → Shared → Prop}
theorem bound_L (F : Fr h₀ L s.heap m) (X₀ : K.In h₀) (N : News h₀ L s.heap news) (I : InstAt s.heap x ox C (some (dictOf es n))) (hga : findIn K (.ref C) "__getattribute__" = some (some (.builtin "list.__getattribute__"))) (hk : findIn K (.ref C) "__getattr__" = some none) (hm : mroIn K C (.type "list") = some true)
    (hh : hasDictIn K C = true) (ha : findIn K (.ref C) name = some (some (.ref f))) (hf : isFn K (.ref f) = true) (hgf : specialIn K (.ref f) "__get__" = some (some (.builtin "function.__get__"))) (ht : takesIn K (.ref f) = some false) (hc : copiedNames.contains name = false) (hl : getL name es = some none)
    (h : ∀ q h', Fr h₀ L h' m → News h₀ L h' ((q, methodObj (.ref f) (.ref x)) :: news) → (∀ p ∈ news, p.1 < q) → Q (.ref q) { s with heap := h', toks := s.toks + 1 }) : wpAny (model prog w) A (getAttr (.ref x) name expr) Q E s := by
  have X := X₀.keeps F.keep
  have hfo := findObj_fn hh ha hgf ht hc (show lookIn name (dictOf es n) = some none by rw [lookIn_dict, hl])
  obtain ⟨sh, sg, sd, st, so⟩ := s
  have L0 := I.type (M := model prog w)
  have L1 := looks_findIn (M := model prog w) X hga
  have L2 := looks_findIn (M := model prog w) X hk
  unfold getAttr getAttrBy
  refine wpAny_bind (wpAny_mkText (wpAny_holding (wpAny_bind (L0.at (wpAny_bind (L1.at ?_))))))
  show wpAny _ _ (getAttrByItsOwn (.ref x) (.str name st) (.ref C) (.builtin "list.__getattribute__") true expr) _ _ _
  unfold getAttrByItsOwn hookBefore callGetattribute boundAndCalled
  rw [if_pos (show onTheHeap (.ref C) = true from rfl)]
  refine wpAny_bind (L2.at ?_)
  rw [if_neg (show ¬ (expr && onTheHeap (.builtin "list.__getattribute__")) = true by cases expr <;> decide)]
  refine wpAny_bind (wpAny_attempt (wpAny_holding ?_))
  refine wpAny_bind (wpAny_of_eq (PySem.F.slot_list_getattribute.bind _) ?_)
  refine call_bi (n := "__getattribute__") (s := ⟨sh, sg, sd, st + 1, so⟩) X I hm (by first | exact .inl (by decide +kernel) | exact .inr (by decide +kernel)) (by decide +kernel) (by decide +kernel) PySem.F.entry_list_ga (PySem.F.args_list_getattribute_2 _ _) ?_
  unfold Builtin.«object.__getattribute__»
  refine wpAny_bind (wpAny_of_eq (a := (.ref x, [.str name st])) (by first | rfl | kernel_rfl) ?_)
  dsimp only
  refine wpAny_bind (wpAny_of_eq (a := name) (by first | rfl | kernel_rfl) ?_)
  refine wpAny_bind (L0.at (wpAny_bind ((looks_find (M := model prog w) X I hfo).at ?_)))
  show wpAny _ _ (holding [.ref f] (call (.builtin "function.__get__") [.ref f, .ref x, .ref C]) >>= ret) _ _ _
  refine wpAny_bind (wpAny_holding (wpAny_call (fn_get (s := ⟨sh, sg, sd, st + 1, so⟩) X (beq_iff_eq.mp hf) ?_)))
  refine wpAny_pure ⟨_, rfl, ?_⟩
  show wpAny _ _ (handedOut _) _ _ _
  exact handed_on rfl (h sh.objs.size _ (F.push _) (N.push F _) fun p hp => Heap.lt_size (N p hp).1)
end
section
variable {M : Model} {A : Around} {E : Value → Shared → Prop} {s : Shared} {K : Frag} {env : Env} {pos p : Pos} {first : List Value} {Q : Value → Shared → Prop} {e : PySem.Expr} {q g : Addr} {self : Value}
theorem callWith_MS (hf : fnIn K g = true) (h : wpAny M A (eval e env) (fun v s₁ => StarOf M A E v (fun vs s₂ => MethP K q g self s₂.heap ∧ wpAny M A (call (.ref q) (first ++ vs)) Q E s₂) s₁) E s)
    (he : starEach [.Starred e p] env = [(true, eval e env)] := by rfl) : wpAny M A (callWith pos (.ref q) first (backTo pos (starEach [.Starred e p] env)) []) Q E s := by
  rw [he]
  exact ks_call rfl (keeps_M hf) (ks_lone h)
end
theorem star_tup {prog : Program} {w : World} {A : Around} {E : Value → Shared → Prop} {s : Shared} {a : Addr} {vs : List Value} {n : Nat} {Q : List Value → Shared → Prop} (D : s.heap.get? a = some (tupOf vs n)) (hz : vs.length ≤ 1000000)
    (h : ∀ h', (∀ b o, s.heap.get? b = some o → h'.get? b = some o) → Q vs { s with heap := h' }) : StarOf (model prog w) A E (.ref a) Q s := by
  have hT' : s.TypeIs (.ref a) "tuple" := ⟨_, D, rfl⟩
  have z : wpAny (model prog w) A (collect (.ref a)) Q E s :=
    wpAny_collect_seq a (.inr rfl) D rfl rfl (fun h' hk => h h' hk) (by rw [List.size_toArray, sizeLine_eq]; lia)
  unfold StarOf notIterableAtAll
  exact wpAny_bind (wpAny_specialOf hT' PySem.F.slot_tuple_iter.lookup (wpAny_pure ⟨rfl, z⟩))
section
variable {M : Model} {A : Around} {E : Value → Shared → Prop} {s : Shared} {env : Env} {apos pos p : Pos} {Q : Value → Shared → Prop} {o e : PySem.Expr} {name : Str}
theorem star_method (h : wpAny M A (eval o env) (fun ov s₁ => wpAny M A (getAttr ov name true) (fun f s₂ => wpAny M A (callWith pos f [] (backTo pos (starEach [.Starred e p] env)) []) Q E s₂) E s₁) E s)
    (hbase : attributeBase o name env (eval o env) = eval o env := by rfl)
    (hfew : methodCallForm (([.Starred e p] : List PySem.Expr).length + ([] : List Keyword).length) (backTo pos (starEach [.Starred e p] env)) (backToKw pos (keywordEach [] env)) = false := by rfl) :
    wpAny M A (eval (.Call (.Attribute o name apos) [.Starred e p] [] pos) env) Q E s := by
  rw [arm_eval_Call, hbase]
  refine wpAny_bind (wpAny_mono h (fun ov s₁ h₁ => ?_) fun _ _ z => z)
  refine wpAny_bind (wpAny_standAt ?_)
  unfold methodCall
  rw [hfew]
  refine wpAny_bind (wpAny_holding ?_)
  unfold calleeOf
  rw [if_neg (by decide)]
  refine wpAny_bind (wpAny_mono h₁ (fun f s₂ h₂ => wpAny_pure ?_) fun _ _ z => z)
  refine wpAny_bind ?_
  unfold methodCallPos
  rw [if_pos (by rfl)]
  exact wpAny_pure h₂
end
end Mine
namespace Mine
section
variable {prog : Program} {w : World} {A : Around} {s : Shared} {env : Env} {x : Str} {px pos : Pos} {iter : PySem.Expr} {body orelse : List Stmt} {Q : Flow → Shared → Prop}
noncomputable def ForP (I : Nat → Shared → Prop) (Q : Flow → Shared → Prop) (n : Nat) (f : Flow) (s' : Shared) : Prop := match f with
  | .next | .cont => ∃ m, m < n ∧ I m s'
  | .brk => Q .next s'
  | .ret v => Q (.ret v) s'
theorem ForP.next {I : Nat → Shared → Prop} {n : Nat} {s' : Shared} (m : Nat) (h : m < n) (i : I m s') : ForP I Q n .next s' := ⟨m, h, i⟩
theorem ForP.cont {I : Nat → Shared → Prop} {n : Nat} {s' : Shared} (m : Nat) (h : m < n) (i : I m s') : ForP I Q n .cont s' := ⟨m, h, i⟩
theorem for_D (h : wpAny (model prog w) A (eval iter env) (fun xv s₁ => wpAny (model prog w) A (pyIter xv) (fun it s₂ => ∃ (I : Nat → Shared → Prop) (n : Nat), I n s₂ ∧
      ∀ n s, I n s → wpAny (model prog w) A (pyNext it) (fun r s₃ => match r with
        | none => wpAny (model prog w) A (execs orelse env) Q FF s₃
        | some v => wpAny (model prog w) A (storeName env x v) (fun _ s₄ => wpAny (model prog w) A (execs body env) (ForP I Q n) FF s₄) FF s₃) FF s) FF s₁) FF s)
    (hf : ∀ v, foldedSetIterable iter env v = pure v := by intro _; rfl) :
    wpAny (model prog w) A (exec (.For (.Name x px) iter body orelse pos) env) Q FF s := by
  refine wpAny_For (wpAny_mono h (fun xv s₁ h₁ => wpAny_mono h₁ (fun it s₂ h₂ => ?_) fun _ _ z => z.elim) fun _ _ z => z.elim) hf
  obtain ⟨I, n, hI, turn⟩ := h₂
  refine codeAny_forLoop I (fun n s hI => wpAny_mono (turn n s hI) (fun r s₃ h₃ => ?_) fun _ _ z => z.elim) n hI
  cases r with
  | none => exact wpAny_mono h₃ (fun f s' z => z) fun _ _ z => z.elim
  | some v =>
    refine wpAny_mono (wpAny_assign_Name h₃) (fun _ s₄ h₄ => ?_) fun _ _ z => z.elim
    refine wpAny_mono h₄ (fun f s₅ h₅ => ?_) fun _ _ z => z.elim
    cases f with
    | next => exact h₅
    | cont => exact h₅
    | brk => exact h₅
    | ret v => exact h₅
noncomputable def WkP (St : Nat → Heap → Prop) (J : Nat → Shared → Prop) (Q : Flow → Shared → Prop) (i : Nat) (f : Flow) (s' : Shared) : Prop := match f with
  | .next | .cont => St (i + 1) s'.heap ∧ J (i + 1) s'
  | .brk => Q .next s'
  | .ret v => Q (.ret v) s'
theorem WkP.next {St : Nat → Heap → Prop} {J : Nat → Shared → Prop} {i : Nat} {s' : Shared} (h : St (i + 1) s'.heap) (j : J (i + 1) s') : WkP St J Q i .next s' := ⟨h, j⟩
theorem WkP.cont {St : Nat → Heap → Prop} {J : Nat → Shared → Prop} {i : Nat} {s' : Shared} (h : St (i + 1) s'.heap) (j : J (i + 1) s') : WkP St J Q i .cont s' := ⟨h, j⟩
theorem for_W (h : wpAny (model prog w) A (eval iter env) (fun xv s₁ => wpAny (model prog w) A (pyIter xv) (fun it s₂ => ∃ (I : Addr) (fp wr : List Addr) (n : Nat) (P : Nat → Value → Prop) (St : Nat → Heap → Prop) (J : Nat → Shared → Prop), it = .ref I ∧ Walks prog w A I fp wr n P St ∧ St 0 s₂.heap ∧ J 0 s₂ ∧
      (∀ i s v h' tk, i < n → St i s.heap → J i s → P i v → St (i + 1) h' → (∀ b o, b ∉ wr → s.heap.get? b = some o → h'.get? b = some o) →
        wpAny (model prog w) A (storeName env x v) (fun _ s₄ => wpAny (model prog w) A (execs body env) (WkP St J Q i) FF s₄) FF { s with heap := h', toks := tk }) ∧
      (∀ s h' tk, J n s → (∀ b o, b ∉ wr → s.heap.get? b = some o → h'.get? b = some o) → wpAny (model prog w) A (execs orelse env) Q FF { s with heap := h', toks := tk })) FF s₁) FF s)
    (hf : ∀ v, foldedSetIterable iter env v = pure v := by intro _; rfl) :
    wpAny (model prog w) A (exec (.For (.Name x px) iter body orelse pos) env) Q FF s := by
  refine for_D (wpAny_mono h (fun xv s₁ h₁ => wpAny_mono h₁ (fun it s₂ h₂ => ?_) fun _ _ z => z) fun _ _ z => z) hf
  obtain ⟨I, fp, wr, n, P, St, J, rfl, W, hst, hj, turn, fin⟩ := h₂
  refine ⟨fun k s => ∃ i, k + i = n ∧ St i s.heap ∧ J i s, n, ⟨0, rfl, hst, hj⟩, ?_⟩
  rintro k s ⟨i, hk, hst, hj⟩
  by_cases hi : i < n
  · refine W.item i s _ _ hi hst fun v h' tk hP hst' hk' => ?_
    refine wpAny_mono (turn i s v h' tk hi hst hj hP hst' hk') (fun _ s₄ h₄ => wpAny_mono h₄ (fun f s₅ h₅ => ?_) fun _ _ z => z) fun _ _ z => z
    cases f with
    | next => exact ⟨k - 1, by omega, i + 1, by lia, h₅⟩
    | cont => exact ⟨k - 1, by omega, i + 1, by omega, h₅⟩
    | brk => exact h₅
    | ret v => exact h₅
  · have e : i = n := by lia
    subst e
    exact W.done s _ _ hst fun h' tk hk' => fin s h' tk hj hk'
end
end Mine
namespace Mine
theorem end_true {M : Model} {A : Around} {cd : Code} {s s₁ : Shared} {cw : ClaimW} {cl : Str → Option Addr} {mean : ExcName → Option Value} {args : List WData} {d : WData} {tabs : List (Addr × Addr)} (hT : TabsAt tabs s₁.heap)
    (hr : ∀ cls, cw.raises args cls = false) (hd : ∀ h' : Heap, ReadsW cw.records cl h' (.bool true) d []) (hp : cw.post args d args = true)
    (h : codeAny M A cd (fun r s' => r = .ok (.ret (.bool true)) ∧ (∀ b o, (ghostOf s₁.heap tabs).get? b = some o → s'.heap.get? b = some o) ∧ s'.os = s₁.os ∧ AllBare s'.gens ∧ GrownAll tabs s'.heap) s) : codeAny M A cd (GoodWG cw cl mean args s₁) s :=
  codeAny_mono h fun r s' ⟨hc, hk, hos, hg, hgr⟩ => by
    have keep : ∀ b o, b ∉ tabs.map (·.2) → s₁.heap.get? b = some o → s'.heap.get? b = some o := fun b o hb e => hk b o (ghost_ne e hb)
    have grown : ∀ b o, b ∈ tabs.map (·.2) → s₁.heap.get? b = some o → isCodeTable s₁.heap b ∧ o = tabObj #[] ∧ ∃ ps, s'.heap.get? b = some (tabObj ps) := fun b o hb e => by
      obtain ⟨q, hq, rfl⟩ := List.mem_map.mp hb
      have e2 := (hT q hq).2
      rw [e] at e2
      exact ⟨((hT q hq).1.tab (hT q hq).2).isCodeTable, Option.some.inj e2, hgr.get q hq⟩
    refine ⟨.inl ⟨_, d, [], hc, hr, hd _, hp, fun _ => ⟨List.nodup_nil, fun a ha => nomatch ha⟩⟩, ⟨fun b o e => ?_, fun b o e => ?_⟩, hos, hg⟩
    · by_cases hb : b ∈ tabs.map (·.2)
      · obtain ⟨ht, rfl, ps, hP⟩ := grown b o hb e
        exact .inr (.inl ⟨ht, rfl, #[], ps, rfl, by rw [Array.empty_append]; exact hP⟩)
      · exact .inl (keep b o hb e)
    · by_cases hb : b ∈ tabs.map (·.2)
      · obtain ⟨_, _, ps, hP⟩ := grown b o hb e
        exact ⟨_, hP⟩
      · exact ⟨o, keep b o hb e⟩
end Mine
namespace Mine
section
variable {prog : Program} {w : World} {A : Around} {E : Value → Shared → Prop} {s : Shared}
theorem args_issub (a b c : Value) : argsOk "issubclass.nested" ⟨[a, b, c], []⟩ := by unfold argsOk; kernel_rfl
theorem issub_in {dep : Int} {tk : Tok} {Q : Fin → Shared → Prop} (hq : Q (.done (.ret (.bool true))) s) :
    wpAny (model prog w) A (Builtin.«issubclass.nested» ⟨[.type "str", .type "str", .int dep tk], []⟩) Q E s := by
  have hm : (Value.type ((Manifest.find? "str").elim "type" (·.metatype)) == Value.type "type") = true := by decide +kernel
  have hself : isSubtype (.type "str") (.type "str") = pure true := by rw [isSubtype_type]; kernel_rfl
  repeat (any_goals (first | assumption | (rw [if_pos hm]) | (rw [hself]) | wp_step))
theorem issub_str_in {Q : Value → Shared → Prop} {dep : Int} {tk : Tok} (hq : Q (.bool true) s) : wpAny (model prog w) A (call (.builtin "issubclass.nested") [.type "str", .type "str", .int dep tk]) Q E s := by
  refine wpAny_call (codeAny_call_builtin (by decide +kernel) F.entry_issubclass_nested ?_)
  have kind : builtinKind "issubclass.nested" = none := by decide +kernel
  have fin : wpAny (model prog w) A.in1 (Builtin.«issubclass.nested» ⟨[.type "str", .type "str", .int dep tk], []⟩) (fun fin s' => match fin with
      | .done f => (match (Except.ok f : Result) with | .ok (.ret v) => Q v s' | .ok _ => False | .error e => E e s')
      | .again c' => c'.quiet = true ∧ codeAny (model prog w) A c' (fun (r : Result) s' => match r with | .ok (.ret v) => Q v s' | .ok _ => False | .error e => E e s') s') E s := issub_in hq
  simp only [checkBuiltinCall, kind]
  have ok := args_issub (.type "str") (.type "str") (.int dep tk)
  cases hsig : Manifest.signature? "issubclass.nested" with
  | none => exact wpAny_pure fin
  | some sig =>
    simp only [argsOk, hsig] at ok
    have h2 : Bind.checkArgs "issubclass.nested" sig ⟨[.type "str", .type "str", .int dep tk], []⟩ = pure () := ok
    show wpAny _ _ (Bind.checkArgs "issubclass.nested" sig _) _ _ s
    rw [h2]; exact wpAny_pure fin
theorem issub_tup {a : Addr} {n : Nat} {tk : Tok} {Q : Fin → Shared → Prop} (ha : s.heap.get? a = some (tupOf [.type "str", .type "bytes"] n)) (hq : Q (.done (.ret (.bool true))) s) :
    wpAny (model prog w) A (Builtin.«issubclass.nested» ⟨[.type "str", .ref a, .int 0 tk], []⟩) Q E s := by
  have hT : s.TypeIs (.ref a) "tuple" := ⟨_, ha, rfl⟩
  unfold Builtin.«issubclass.nested»
  refine wpAny_bind (wpAny_typeOf hT ?_)
  rw [if_neg (by decide)]
  unfold Builtin.Builtins.unionMembers
  refine wpAny_bind (wpAny_bind (wpAny_typeOf hT ?_))
  rw [if_neg (by decide)]
  refine wpAny_pure (wpAny_bind (wpAny_isInstance hT isSubtype_tuple_tuple ?_))
  rw [if_pos rfl]
  dsimp only
  rw [if_neg (by decide)]
  refine wpAny_bind (wpAny_seqItems ha rfl ?_)
  dsimp only [Option.getD]
  rw [← Array.forIn_toList]
  show wpAny _ _ (forIn [Value.type "str", Value.type "bytes"] _ _ >>= _) _ _ s
  rw [List.forIn_cons]
  refine wpAny_bind (wpAny_bind (wpAny_bind (issub_str_in ?_)))
  refine wpAny_bind (wpAny_truthy_bool ?_)
  rw [if_pos rfl]
  refine wpAny_bind (wpAny_pure (wpAny_pure ?_))
  dsimp only
  exact wpAny_pure (wpAny_pure hq)
theorem issub_call {a : Addr} {n : Nat} {Q : Value → Shared → Prop} (ha : s.heap.get? a = some (tupOf [.type "str", .type "bytes"] n)) (hq : Q (.bool true) s) : wpAny (model prog w) A (call (.builtin "issubclass") [.type "str", .ref a]) Q E s :=
  call_issubclass (S := fun _ R s => s.heap.get? a = some (tupOf [.type "str", .type "bytes"] n) ∧ R (.ok (.ret (.bool true))) s) (fun _ _ _ _ _ hs => issubclass_outer (issub_tup hs.1 hs.2)) ⟨ha, hq⟩
theorem wp_peek1' {α : Type} {K : Frag} {M : Model} {Q : α → Shared → Prop} {o : Obj} {r : Addr → α} (X : K.In s.heap) 
    (q : Q (r s.heap.objs.size) { s with heap := s.heap.push o }) :
    ∀ (t : Sem α) (g : Addr → Option α), peek1 K ⟨M.prog, M.w.params⟩ t = some (o, g) → (∀ D, g D = some (r D)) → wpAny M A t Q E s := by
  intro t
  induction t with
  | rule _ k ih => intro g e hg Γ p hΓ; exact ih () g e hg Γ p hΓ
  | point _ k ih => intro g e hg Γ p hΓ; exact ih () g e hg Γ p hΓ
  | ask k ih => intro g e hg Γ p hΓ; exact ih _ g e hg Γ p hΓ
  | load a _ k ih =>
    intro g e hg Γ p hΓ
    simp only [peek1] at e
    split at e
    · rename_i ob ho; exact ⟨ob, X _ _ ho, ih ob g e hg Γ p hΓ⟩
    · cases e
  | alloc ob k _ =>
    intro g e hg
    have e : some (ob, fun D => peek K ⟨M.prog, M.w.params⟩ (k D)) = some (o, g) := e
    obtain ⟨e1, e2⟩ := Prod.mk.inj (Option.some.inj e)
    subst e1
    subst e2
    have X' : K.In (s.heap.push ob) := X.keeps fun b x hb => Heap.get?_push_of_some _ hb
    show wpAny M A (alloc ob >>= k) Q E s
    refine wpAny_bind (wpAny_alloc ?_)
    exact (Looks.of_peek (M := M) (h := s.heap.push ob) X' (hg s.heap.objs.size)).here (s := { s with heap := s.heap.push ob }) q
  | _ => intro g e; cases e
end
section
variable {prog : Program} {w : World} {K : Frag} {p : Program} {loose : List Str} {mean : ExcName → Option Value} {mg mb : Str → Option Value}
theorem enterR {base : Heap} {dp un : Nat} {gd : Option (List Code)} {fr : List Env} {s : Shared} {R : Result → Shared → Prop} {name qual : Str} {params : Arguments} {body : List Stmt} {scope : Scope} {dV kV doc pm cdv ct oc : Value} {an od : Option Addr} {osl : Array (Option Value)} {f : Addr} {args : Args} {vs : List Value} {g₁ : Addr → Option (List (Str × Value))} (binds : Addr → List (Str × Value))
    (D : List (Addr × Obj)) (X : K.In base) (T : Top p loose mean mg mb base) (hS : base.StaysIn s.heap) (hD : ∀ q ∈ D, s.heap.get? q.1 = some q.2 ∧ base.get? q.1 = none)
    (ho : K.lookup f = some ⟨oc, od, .func (fnOf name qual params body scope dV kV doc pm an cdv ct), osl⟩) (hcd : codeIn K cdv qual = true) (hroom : dp < recursionLimit)
    (hv : args.pos.drop (params.posonlyargs.length + params.args.length) = vs)
    (hp : peek1 K ⟨prog, w.params⟩ (bindArgs (fnOf name qual params body scope dV kV doc pm an cdv ct) args) = some (({ cls := .type "tuple", data := .seq vs.toArray } : Obj), g₁))
    (hg : ∀ D, g₁ D = some (binds D)) (hloc : ∀ D, ∀ y ∈ binds D, scope.names.lookup y.1 = some .local)
    (h : ∀ P g L h₁ fr' tk, Fr g L h₁ (fun y => (binds P).reverse.lookup y) → News g L h₁ ((P, tupOf vs 0) :: D) → K.In g → Top p loose mean mg mb g → Keep (D.map Prod.fst) s.heap g → (∀ b o, s.heap.get? b = some o → b < L) → s.heap.get? P = none →
      wpAny (model prog w) (amb (dp + 1) (un + 3) gd fr') (execs body (envOf qual scope L f cdv)) (fun fl s' => R (.ok (.ret (match fl with | .ret v => v | _ => .none))) s') FF { s with heap := h₁, toks := tk })
    (hco : scope.isCoroutine = false) (hgen : scope.isGenerator = false) (hk : scope.kind = .function)
    (hcell : ∀ x ∈ scope.names, x.2 ≠ .cell) : codeAny (model prog w) (amb dp un gd fr) (.call (.ref f) args) R s := by
  have _ := hv
  have XS := X.keeps hS
  refine codeAny_call_function (fd := fnOf name qual params body scope dV kV doc pm an cdv ct) (body := body) hroom (XS _ _ ho) rfl hco hgen rfl (codeRec_of XS hcd) ?_
  refine wp_peek1' (o := ({ cls := .type "tuple", data := .seq vs.toArray } : Obj)) XS (r := binds) ?_ _ g₁ hp hg
  have T' := T.nolimit.keeps hS
  refine wpAny_newFunctionEnv (s := { s with heap := s.heap.push { cls := .type "tuple", data := .seq vs.toArray } }) hcell (hloc _) (fun h₁ hns hsb => ⟨(T'.keeps fun b o e => Heap.get?_push_of_some _ e).fresh _ hsb, codeAny_func ?_⟩) hk
  have st : base.StaysIn (hideAll s.heap (D.map Prod.fst)) := fun b o e => hideAll_get _ (hS b o e) fun q => by
    obtain ⟨q', hq, rfl⟩ := List.mem_map.mp q
    rw [(hD q' hq).2] at e; cases e
  have hk₁ : ∀ b o, (s.heap.push { cls := .type "tuple", data := .seq vs.toArray }).get? b = some o → h₁.get? b = some o := fun b o e => hsb.extBut b o (Nat.ne_of_lt (Heap.lt_size e)) (Heap.get?_push_of_some _ e)
  have up : ∀ b o, s.heap.get? b = some o → h₁.get? b = some o := fun b o e => hk₁ b o (Heap.get?_push_of_some _ e)
  have nP : s.heap.get? s.heap.objs.size = none := by
    cases e : s.heap.get? s.heap.objs.size with
    | none => rfl
    | some o => exact absurd (Heap.lt_size e) (Nat.lt_irrefl _)
  have lL : ∀ b o, s.heap.get? b = some o → b < (s.heap.push { cls := .type "tuple", data := .seq vs.toArray }).objs.size := fun b o e => Heap.lt_size (Heap.get?_push_of_some _ e)
  have sz : (s.heap.push { cls := .type "tuple", data := .seq vs.toArray }).objs.size = s.heap.objs.size + 1 := by simp [Heap.push]
  refine wpAny_mono (h s.heap.objs.size (hideAll s.heap (D.map Prod.fst)) _ h₁ _ _
    ⟨hns, fun b o e => up b o (of_hideAll _ e), ?_⟩
    (fun q hq => ?_) (X.keeps st) (T.keeps st) (fun b o hb e => hideAll_get _ e hb) (fun b o e => lL b o e) nP) (fun _ _ x => x) fun _ _ x => x.elim
  · rw [hideAll_size]
    dsimp only
    (clear hroom; lia)
  · rcases List.mem_cons.mp hq with rfl | hq
    · refine ⟨hk₁ _ _ (Heap.get?_push_at rfl rfl), ?_, ?_⟩
      · dsimp only
        rw [sz]
        exact Nat.ne_of_lt (Nat.lt_succ_self _)
      · cases e : (hideAll s.heap (D.map Prod.fst)).get? s.heap.objs.size with
        | none => rfl
        | some o => rw [of_hideAll _ e] at nP; cases nP
    · exact ⟨up _ _ (hD q hq).1, Nat.ne_of_lt (lL _ _ (hD q hq).1), hideAll_none _ (List.mem_map_of_mem (f := Prod.fst) hq)⟩
end
end Mine
namespace Mine
section
variable {prog : Program} {w : World} {A : Around} {s : Shared} {env : Env} {x : Str} {px pos : Pos} {iter : PySem.Expr} {body orelse : List Stmt} {Q : Flow → Shared → Prop}
noncomputable def LpP (g : Heap) (L : Addr) (s0 : Shared) (I : Addr) (oI : Obj) (fx : List (Addr × Obj)) (J : Nat → Array GenState → (Str → Option Value) → List (Addr × Obj) → Prop) (Q : Flow → Shared → Prop) (i : Nat) (f : Flow) (s' : Shared) : Prop := match f with
  | .next | .cont => ∃ h g' t m news, s' = { s0 with heap := h, gens := g', toks := t } ∧ Fr g L h m ∧ News g L h ((I, oI) :: (fx ++ news)) ∧ J (i + 1) g' m news
  | .brk => Q .next s'
  | .ret v => Q (.ret v) s'
inductive ForGo (prog : Program) (w : World) (A : Around) (env : Env) (x : Str) (body orelse : List Stmt) (Q : Flow → Shared → Prop) (g : Heap) (L : Addr) (s0 : Shared) (it : Value) (s₂ : Shared) : Prop
  | mk (fx : List (Addr × Obj)) (I : Addr) (n : Nat) (P : Nat → Value → Prop) (St : Nat → Heap → Prop) (ic : String) (J : Nat → Array GenState → (Str → Option Value) → List (Addr × Obj) → Prop) (h0 : it = .ref I) (h1 : Walks prog w A I (I :: fx.map Prod.fst) [I] n P St) (h2 : (∀ i h, St i h → ∃ o, h.get? I = some o ∧ o.cls = .type ic)) (h3 : St 0 s₂.heap) (h4 : g.get? I = none) (h5 : I ≠ L) (h6 : (∃ h g' t m news, s₂ = { s0 with heap := h, gens := g', toks := t } ∧ Fr g L h m ∧ News g L h (fx ++ news) ∧ J 0 g' m news)) (h7 : (∀ p ∈ fx, p.2.cls ≠ .type ic)) (h8 : (∀ i g' m news, J i g' m news → ∀ p ∈ news, p.2.cls ≠ .type ic ∨ p.1 ≠ I)) (h9 : (∀ i v h' g' tk m news oI, i < n → P i v → J i g' m news → Fr g L h' m → News g L h' ((I, oI) :: (fx ++ news)) → wpAny (model prog w) A (storeName env x v) (fun _ s₄ => wpAny (model prog w) A (execs body env) (LpP g L s0 I oI fx J Q i) FF s₄) FF { s0 with heap := h', gens := g', toks := tk })) (h10 : (∀ h' g' tk m news, J n g' m news → Fr g L h' m → News g L h' (fx ++ news) → wpAny (model prog w) A (execs orelse env) Q FF { s0 with heap := h', gens := g', toks := tk })) : ForGo prog w A env x body orelse Q g L s0 it s₂
theorem for_NC (g : Heap) (L : Addr) (s0 : Shared) (h : wpAny (model prog w) A (eval iter env) (fun xv s₁ => wpAny (model prog w) A (pyIter xv) (ForGo prog w A env x body orelse Q g L s0) FF s₁) FF s)
    (hf : ∀ v, foldedSetIterable iter env v = pure v := by intro _; rfl) :
    wpAny (model prog w) A (exec (.For (.Name x px) iter body orelse pos) env) Q FF s := by
  refine for_W (wpAny_mono h (fun xv s₁ h₁ => wpAny_mono h₁ (fun it s₂ h₂ => ?_) fun _ _ z => z) fun _ _ z => z) hf
  obtain ⟨fx, I, n, P, St, ic, J, rfl, W, hic, st0, gI, IL, start, cfx, cJ, turn, fin⟩ := h₂
  refine ⟨I, _, _, n, P, St, fun i s' => ∃ h g' t m news, s' = { s0 with heap := h, gens := g', toks := t } ∧ Fr g L h m ∧ News g L h (fx ++ news) ∧ J i g' m news ∧ ∃ o, h.get? I = some o ∧ o.cls = .type ic, rfl, W, st0, ?_, ?_, ?_⟩
  · obtain ⟨h, g', t, m, news, rfl, F, N, j⟩ := start
    exact ⟨h, g', t, m, news, rfl, F, N, j, hic _ _ st0⟩
  · rintro i s5 v h' tk hi st ⟨h, g', t, m, news, rfl, F, N, j, oo, eo, co⟩ hv st' kk
    dsimp only at kk eo st
    have off : ∀ p ∈ fx ++ news, p.1 ∉ [I] := fun p hp hb => by
      have e := (N p hp).1
      rw [List.mem_singleton.mp hb, eo] at e
      have e2 : oo = p.2 := Option.some.inj e
      rcases List.mem_append.mp hp with hp | hp
      · exact cfx p hp (e2 ▸ co)
      · exact (cJ _ _ _ _ j p hp).elim (fun q => q (e2 ▸ co)) fun q => q (List.mem_singleton.mp hb)
    have F' := Mine.Fr.kept (h' := h') (D := [I]) F (fun b ob hb e => kk b ob hb e) (fun b hb => by rw [List.mem_singleton.mp hb]; exact gI) (fun hb => IL (List.mem_singleton.mp hb).symm)
    have N' := News.kept (h' := h') (D := [I]) N (fun b ob hb e => kk b ob hb e) off
    obtain ⟨oI, eI, cI⟩ := hic _ _ st'
    have N2 : News g L h' ((I, oI) :: (fx ++ news)) := News.cons N' eI gI IL
    refine wpAny_mono (turn i v h' g' tk m news oI hi hv j F' N2) (fun _ s₄ h₄ => wpAny_mono h₄ (fun f s₅ h₅ => ?_) fun _ _ z => z) fun _ _ z => z
    have go : (∃ h g' t m news, s₅ = { s0 with heap := h, gens := g', toks := t } ∧ Fr g L h m ∧ News g L h ((I, oI) :: (fx ++ news)) ∧ J (i + 1) g' m news) →
        St (i + 1) s₅.heap ∧ ∃ h g' t m news, s₅ = { s0 with heap := h, gens := g', toks := t } ∧ Fr g L h m ∧ News g L h (fx ++ news) ∧ J (i + 1) g' m news ∧ ∃ o, h.get? I = some o ∧ o.cls = .type ic := by
      rintro ⟨h9, g9, t9, m9, news9, rfl, F9, N9, j9⟩
      refine ⟨W.frame _ _ _ st' fun b hb o ho => ?_, h9, g9, t9, m9, news9, rfl, F9, fun p hp => N9 p (.tail _ hp), j9, oI, (N9 _ (.head _)).1, cI⟩
      rcases List.mem_cons.mp hb with rfl | hb
      · rw [eI] at ho; cases ho
        exact (N9 _ (.head _)).1
      · obtain ⟨p, hp, rfl⟩ := List.mem_map.mp hb
        have e1 := (N2 p (.tail _ (List.mem_append_left _ hp))).1
        rw [e1] at ho; cases ho
        exact (N9 p (.tail _ (List.mem_append_left _ hp))).1
    cases f with
    | next => exact go h₅
    | cont => exact go h₅
    | brk => exact h₅
    | ret v => exact h₅
  · rintro s5 h' tk ⟨h, g', t, m, news, rfl, F, N, j, oo, eo, co⟩ kk
    dsimp only at kk eo
    have off : ∀ p ∈ fx ++ news, p.1 ∉ [I] := fun p hp hb => by
      have e := (N p hp).1
      rw [List.mem_singleton.mp hb, eo] at e
      have e2 : oo = p.2 := Option.some.inj e
      rcases List.mem_append.mp hp with hp | hp
      · exact cfx p hp (e2 ▸ co)
      · exact (cJ _ _ _ _ j p hp).elim (fun q => q (e2 ▸ co)) fun q => q (List.mem_singleton.mp hb)
    have F' := Mine.Fr.kept (h' := h') (D := [I]) F (fun b ob hb e => kk b ob hb e) (fun b hb => by rw [List.mem_singleton.mp hb]; exact gI) (fun hb => IL (List.mem_singleton.mp hb).symm)
    have N' := News.kept (h' := h') (D := [I]) N (fun b ob hb e => kk b ob hb e) off
    exact fin h' g' tk m news j F' N'
theorem LpP.next {g : Heap} {L : Addr} {s0 : Shared} {I : Addr} {oI : Obj} {fx : List (Addr × Obj)} {J : Nat → Array GenState → (Str → Option Value) → List (Addr × Obj) → Prop} {i : Nat} {h : Heap} {g' : Array GenState} {t : Nat} {m : Str → Option Value} {news : List (Addr × Obj)}
    (F : Fr g L h m) (N : News g L h ((I, oI) :: (fx ++ news))) (j : J (i + 1) g' m news) : LpP g L s0 I oI fx J Q i .next { s0 with heap := h, gens := g', toks := t } := ⟨h, g', t, m, news, rfl, F, N, j⟩
theorem LpP.cont {g : Heap} {L : Addr} {s0 : Shared} {I : Addr} {oI : Obj} {fx : List (Addr × Obj)} {J : Nat → Array GenState → (Str → Option Value) → List (Addr × Obj) → Prop} {i : Nat} {h : Heap} {g' : Array GenState} {t : Nat} {m : Str → Option Value} {news : List (Addr × Obj)}
    (F : Fr g L h m) (N : News g L h ((I, oI) :: (fx ++ news))) (j : J (i + 1) g' m news) : LpP g L s0 I oI fx J Q i .cont { s0 with heap := h, gens := g', toks := t } := ⟨h, g', t, m, news, rfl, F, N, j⟩
theorem for_listC (g : Heap) (L : Addr) (l : Addr) (vs : List Value) (k : Nat) {m₀ : Str → Option Value} {news₀ : List (Addr × Obj)} (J : Nat → Array GenState → (Str → Option Value) → List (Addr × Obj) → Prop) (hh : A.handled = none)
    (F : Fr g L s.heap m₀) (N : News g L s.heap ((l, listOf vs.toArray k) :: news₀)) (h0 : J 0 s.gens m₀ news₀) (cJ : ∀ i g' m news, J i g' m news → ∀ p ∈ news, p.2.cls ≠ .type "list_iterator" ∨ ∃ o, (p.1, o) ∈ news₀)
    (he : wpAny (model prog w) A (eval iter env) (fun v s' => v = .ref l ∧ s' = s) FF s)
    (turn : ∀ i v h' g' tk m news oI, vs[i]? = some v → J i g' m news → Fr g L h' m → News g L h' ((s.heap.objs.size, oI) :: (l, listOf vs.toArray k) :: news) → (∀ p ∈ (l, listOf vs.toArray k) :: news₀, p.1 < s.heap.objs.size) →
        wpAny (model prog w) A (storeName env x v) (fun _ s₄ => wpAny (model prog w) A (execs body env) (LpP g L s s.heap.objs.size oI [(l, listOf vs.toArray k)] J Q i) FF s₄) FF { s with heap := h', gens := g', toks := tk })
    (fin : ∀ h' g' tk m news, J vs.length g' m news → Fr g L h' m → News g L h' ((l, listOf vs.toArray k) :: news) → wpAny (model prog w) A (execs orelse env) Q FF { s with heap := h', gens := g', toks := tk })
    (hf : ∀ v, foldedSetIterable iter env v = pure v := by intro _; rfl) :
    wpAny (model prog w) A (exec (.For (.Name x px) iter body orelse pos) env) Q FF s := by
  refine for_NC g L s (wpAny_mono he (fun xv s₁ h₁ => ?_) fun _ _ z => z) hf
  obtain ⟨rfl, rfl⟩ := h₁
  have hl : s₁.heap.IsList l vs.toArray := ⟨_, (N _ (.head _)).1, rfl, _, rfl⟩
  have hlt : l < s₁.heap.objs.size := Heap.lt_size (N _ (.head _)).1
  refine wpAny_pyIter_list hl ?_
  obtain ⟨F', N', l'⟩ := ks_newsPush (s := s₁) (o := { cls := .type "list_iterator", data := .fields #[.ref l, .int 0 0] }) F N rfl (Heap.get?_push_at rfl rfl) (fun b o e => Heap.get?_push_of_some _ e)
  refine ⟨[(l, listOf vs.toArray k)], _, vs.toArray.size, _, _, "list_iterator", J, rfl, Walks.list hh s₁.heap.objs.size l (Nat.ne_of_lt hlt) vs.toArray, fun i h st => ?_, ⟨⟨_, Heap.get?_push_at rfl rfl, rfl, rfl⟩, ⟨_, (N' _ (.tail _ (.head _))).1, rfl, _, rfl⟩⟩, (N' _ (.head _)).2.2, (N' _ (.head _)).2.1, ⟨_, s₁.gens, s₁.toks, m₀, news₀, rfl, F', fun p hp => N' p (.tail _ hp), h0⟩, ?_, fun i g' m news j p hp => (cJ i g' m news j p hp).imp id fun ⟨o, ho⟩ => Nat.ne_of_lt (l' (p.1, o) (.tail _ ho)), ?_, ?_⟩
  · obtain ⟨⟨o, e, c, -⟩, -⟩ := st
    exact ⟨o, e, c⟩
  · intro p hp
    rw [List.mem_singleton.mp hp]
    simp
  · intro i v h' g' tk m news oI hi hv j F2 N2
    exact turn i v h' g' tk m news oI (by simpa using hv) j F2 N2 l'
  · intro h' g' tk m news j F2 N2
    exact fin h' g' tk m news (by simpa using j) F2 N2
theorem for_list (g : Heap) (L : Addr) (l : Addr) (vs : List Value) (k : Nat) {m₀ : Str → Option Value} {news₀ : List (Addr × Obj)} (J : Nat → Array GenState → (Str → Option Value) → List (Addr × Obj) → Prop) (hh : A.handled = none)
    (F : Fr g L s.heap m₀) (N : News g L s.heap ((l, listOf vs.toArray k) :: news₀)) (h0 : J 0 s.gens m₀ news₀) (cJ : ∀ i g' m news, J i g' m news → ∀ p ∈ news, p.2.cls ≠ .type "list_iterator")
    (he : wpAny (model prog w) A (eval iter env) (fun v s' => v = .ref l ∧ s' = s) FF s)
    (turn : ∀ i v h' g' tk m news oI, vs[i]? = some v → J i g' m news → Fr g L h' m → News g L h' ((s.heap.objs.size, oI) :: (l, listOf vs.toArray k) :: news) → (∀ p ∈ (l, listOf vs.toArray k) :: news₀, p.1 < s.heap.objs.size) →
        wpAny (model prog w) A (storeName env x v) (fun _ s₄ => wpAny (model prog w) A (execs body env) (LpP g L s s.heap.objs.size oI [(l, listOf vs.toArray k)] J Q i) FF s₄) FF { s with heap := h', gens := g', toks := tk })
    (fin : ∀ h' g' tk m news, J vs.length g' m news → Fr g L h' m → News g L h' ((l, listOf vs.toArray k) :: news) → wpAny (model prog w) A (execs orelse env) Q FF { s with heap := h', gens := g', toks := tk })
    (hf : ∀ v, foldedSetIterable iter env v = pure v := by intro _; rfl) :
    wpAny (model prog w) A (exec (.For (.Name x px) iter body orelse pos) env) Q FF s :=
  for_listC g L l vs k J hh F N h0 (fun i g' m news j p hp => .inl (cJ i g' m news j p hp)) he turn fin hf
theorem for_tup (g : Heap) (L : Addr) (l : Addr) (vs : List Value) (k : Nat) {m₀ : Str → Option Value} {news₀ : List (Addr × Obj)} (J : Nat → Array GenState → (Str → Option Value) → List (Addr × Obj) → Prop) (hh : A.handled = none)
    (F : Fr g L s.heap m₀) (N : News g L s.heap ((l, tupOf vs k) :: news₀)) (h0 : J 0 s.gens m₀ news₀) (cJ : ∀ i g' m news, J i g' m news → ∀ p ∈ news, p.2.cls ≠ .type "tuple_iterator")
    (he : wpAny (model prog w) A (eval iter env) (fun v s' => v = .ref l ∧ s' = s) FF s)
    (turn : ∀ i v h' g' tk m news oI, vs[i]? = some v → J i g' m news → Fr g L h' m → News g L h' ((s.heap.objs.size, oI) :: (l, tupOf vs k) :: news) → (∀ p ∈ (l, tupOf vs k) :: news₀, p.1 < s.heap.objs.size) →
        wpAny (model prog w) A (storeName env x v) (fun _ s₄ => wpAny (model prog w) A (execs body env) (LpP g L s s.heap.objs.size oI [(l, tupOf vs k)] J Q i) FF s₄) FF { s with heap := h', gens := g', toks := tk })
    (fin : ∀ h' g' tk m news, J vs.length g' m news → Fr g L h' m → News g L h' ((l, tupOf vs k) :: news) → wpAny (model prog w) A (execs orelse env) Q FF { s with heap := h', gens := g', toks := tk })
    (hf : ∀ v, foldedSetIterable iter env v = pure v := by intro _; rfl) :
    wpAny (model prog w) A (exec (.For (.Name x px) iter body orelse pos) env) Q FF s := by
  refine for_NC g L s (wpAny_mono he (fun xv s₁ h₁ => ?_) fun _ _ z => z) hf
  obtain ⟨rfl, rfl⟩ := h₁
  have hl : s₁.heap.IsTuple l vs.toArray := ⟨_, (N _ (.head _)).1, rfl, _, rfl⟩
  have hlt : l < s₁.heap.objs.size := Heap.lt_size (N _ (.head _)).1
  refine wpAny_pyIter_tuple hl ?_
  obtain ⟨F', N', l'⟩ := ks_newsPush (s := s₁) (o := { cls := .type "tuple_iterator", data := .fields #[.ref l, .int 0 0] }) F N rfl (Heap.get?_push_at rfl rfl) (fun b o e => Heap.get?_push_of_some _ e)
  refine ⟨[(l, tupOf vs k)], _, vs.toArray.size, _, _, "tuple_iterator", J, rfl, Walks.tuple hh s₁.heap.objs.size l (Nat.ne_of_lt hlt) vs.toArray, fun i h st => ?_, ⟨⟨_, Heap.get?_push_at rfl rfl, rfl, rfl⟩, ⟨_, (N' _ (.tail _ (.head _))).1, rfl, _, rfl⟩⟩, (N' _ (.head _)).2.2, (N' _ (.head _)).2.1, ⟨_, s₁.gens, s₁.toks, m₀, news₀, rfl, F', fun p hp => N' p (.tail _ hp), h0⟩, ?_, fun i g' m news j p hp => .inl (cJ i g' m news j p hp), ?_, ?_⟩
  · obtain ⟨⟨o, e, c, -⟩, -⟩ := st
    exact ⟨o, e, c⟩
  · intro p hp
    rw [List.mem_singleton.mp hp]
    simp
  · intro i v h' g' tk m news oI hi hv j F2 N2
    exact turn i v h' g' tk m news oI (by simpa using hv) j F2 N2 l'
  · intro h' g' tk m news j F2 N2
    exact fin h' g' tk m news (by simpa using j) F2 N2
end
end Mine
namespace Mine
section
variable {prog : Program} {w : World} {A : Around} {E : Value → Shared → Prop} {s : Shared} {a : Addr} {vs : List Value} {n : Nat} {y : Value}
theorem truthy_li0 {Q : Bool → Shared → Prop} (ha : s.heap.get? a = some (listOf ([] : List Value).toArray n)) (h : ∀ k, Q false { s with toks := k }) : wpAny (model prog w) A (truthy (.ref a)) Q E s :=
  wpAny_truthy_list (items := ([] : List Value).toArray) ⟨_, ha, rfl, _, rfl⟩ (by simp) (h _)
theorem truthy_li1 {Q : Bool → Shared → Prop} (ha : s.heap.get? a = some (listOf (vs ++ [y]).toArray n)) (hz : vs.length < 10000000) (h : ∀ k, Q true { s with toks := k }) : wpAny (model prog w) A (truthy (.ref a)) Q E s :=
  wpAny_truthy_list (items := (vs ++ [y]).toArray) ⟨_, ha, rfl, _, rfl⟩ (by rw [List.size_toArray, List.length_append, List.length_singleton]; omega) (by
    have e : (!(vs ++ [y]).toArray.isEmpty) = true := by simp
    rw [e]; exact h _)
theorem sub_last {value slice : PySem.Expr} {u : Tok} {Q : Value → Shared → Prop} (ha : s.heap.get? a = some (listOf (vs ++ [y]).toArray n)) (hz : vs.length < 10000000) (h : Q y s)
    (hs : subscripted slice false (.ref a) (.int (-1) u) = operate [.ref a, .int (-1) u] (getItem (.ref a) (.int (-1) u)) := by with_unfolding_all rfl) :
    wpAny (model prog w) A (subscriptTail value slice (.ref a) (.int (-1) u)) Q E s :=
  tail_any (PySem.IsL.isList (n := n) ha).typeIs slot_list_getitem.lookup (wpAny_getItem_list_neg (PySem.IsL.isList (n := n) ha) (by decide) (by rw [List.size_toArray, List.length_append, List.length_singleton]; lia) (by decide) (by
    have e : ((-1 : Int) + ((vs ++ [y]).toArray.size : Int)).toNat = vs.length := by rw [List.size_toArray, List.length_append, List.length_singleton]; lia
    rw [e, List.getElem?_toArray]; simp) h) hs
end
end Mine
namespace Mine
section
variable {prog : Program} {w : World} {A : Around} {E : Value → Shared → Prop} {s : Shared} {K : Frag} {C L : Addr} {h₀ : Heap} {m : Str → Option Value} {news : List (Addr × Obj)} {Q : Value → Shared → Prop}
theorem call_clsS {pos : List Value} {kw : List (Str × Value)} {fI : Addr} (F : Fr h₀ L s.heap m) (X₀ : K.In h₀) (N : News h₀ L s.heap news) (hm : makesIn K C = true) (hi : findIn K (.ref C) "__init__" = some (some (.ref fI))) (hf : isFn K (.ref fI) = true)
    (h : ∀ x dx h', Fr h₀ L h' m → News h₀ L h' ((x, instObj C dx) :: (dx, dictOf [] 0) :: news) → (∀ p ∈ news, p.1 < dx) → dx < x → (∀ b o, s.heap.get? b = some o → b < dx) →
      codeAny (model prog w) (A.under (.builtin "type.__call__" ⟨.ref C :: pos, kw⟩)) (.call (.ref fI) ⟨.ref x :: pos, kw⟩) (InitBack x fun r s' => match r with | .ok (.ret v) => Q v s' | .ok _ => False | .error e => E e s') { s with heap := h' }) :
    wpAny (model prog w) A (call (.ref C) pos kw) Q E s := by
  have X := X₀.keeps F.keep
  obtain ⟨hh, g, d, t, os⟩ := s
  refine wpAny_call (make_core (makes_of X hm) (looks_findIn X hi) (fun self => bind_fn X self (beq_iff_eq.mp hf)) (.inl rfl) (h _ hh.objs.size _ ((F.push _).push _) ?_ (fun p hp => Heap.lt_size (N p hp).1) (Nat.lt_succ_self _) fun b o e => Heap.lt_size e))
  have := (N.push F emptyDict).push (F.push _) (instObj C hh.objs.size)
  rwa [Heap.size_push] at this
end
end Mine
namespace Mine
section
variable {prog : Program} {w : World} {A : Around} {E : Value → Shared → Prop} {s : Shared} {a b : Addr} {n n2 : Nat} {Q : Value → Shared → Prop}
theorem ne_nil0 (ha : s.heap.get? a = some (listOf ([] : List Value).toArray n)) (hb : s.heap.get? b = some (listOf ([] : List Value).toArray n2)) (hu : A.units < cLine) (h : Q (.bool false) s) : wpAny (model prog w) A (compareOp .NotEq (.ref a) (.ref b)) Q E s :=
  SeqAt.RcNeAt.lists (items := ([] : List Value).toArray) (items2 := ([] : List Value).toArray) (e := fun _ => true) ⟨_, ha, rfl, _, rfl⟩ ⟨_, hb, rfl, _, rfl⟩ rfl hu (fun j h1 => absurd h1 (Nat.not_lt_zero _)) prog w E Q h
theorem ne_nil1 {v : Value} {vs : List Value} (ha : s.heap.get? a = some (listOf (v :: vs).toArray n)) (hb : s.heap.get? b = some (listOf ([] : List Value).toArray n2)) (hu : A.units < cLine) (h : Q (.bool true) s) : wpAny (model prog w) A (compareOp .NotEq (.ref a) (.ref b)) Q E s :=
  SeqAt.RcNeAt.lists_lengths (items := (v :: vs).toArray) (items2 := ([] : List Value).toArray) ⟨_, ha, rfl, _, rfl⟩ ⟨_, hb, rfl, _, rfl⟩ (by simp) hu prog w E Q h
theorem eqAt_pv {u v : Value} {x y : Pv} (hx : IsPv u x) (hy : IsPv v y) (hk : x.isI = y.isI) : SeqAt.EqAt A s u v (decide (x = y)) := fun _ _ _ _ hq => eqBool_pv hx hy hk hq
end
end Mine
namespace Mine
section
variable {prog : Program} {w : World} {A : Around} {E : Value → Shared → Prop} {s : Shared} {a : Addr} {Q : Value → Shared → Prop}
theorem sub_sliceL {items : Array Value} {value slice : PySem.Expr} {sl : Addr} {lo hi : Option Int} {vl vu : Value} {ops : List Value} (hl : s.heap.IsList a items) (hs : s.heap.IsSliceOf sl vl vu .none) (pl : IsPart vl lo) (pu : IsPart vu hi) (hz : items.size ≤ sizeLine)
    (h : Q (.ref s.heap.objs.size) { s with heap := s.heap.push (listOf (slicePick items lo hi none) 0) })
    (hsub : subscripted slice false (.ref a) (.ref sl) = operate ops (getItem (.ref a) (.ref sl))) : wpAny (model prog w) A (subscriptTail value slice (.ref a) (.ref sl)) Q E s :=
  tail_any hl.typeIs slot_list_getitem.lookup (wpAny_getItem_list_slice hl hs pl pu .none (by decide) h hz) hsub
end
end Mine
namespace Mine
section
variable {prog : Program} {w : World} {A : Around} {E : Value → Shared → Prop} {a L : Addr} {Q : Value → Shared → Prop} {g h : Heap} {m : Str → Option Value} {news : List (Addr × Obj)} {gn : Array GenState} {d : Drawn} {tk : Nat} {os : OsState}
theorem slice_new {items : Array Value} {value slice : PySem.Expr} {lo hi : Option Int} {vl vu : Value} {ops : List Value} (hsub : subscripted slice false (.ref a) (.ref h.objs.size) = operate ops (getItem (.ref a) (.ref h.objs.size))) (F : Fr g L h m) (N : News g L h news) (hl : h.IsList a items) (pl : IsPart vl lo) (pu : IsPart vu hi) (hz : items.size ≤ sizeLine)
    (hc : ∀ q sl h', Fr g L h' m → News g L h' ((q, listOf (slicePick items lo hi none) 0) :: (sl, sliceO vl vu) :: news) → (∀ p ∈ news, p.1 < q) → Q (.ref q) ⟨h', gn, d, tk, os⟩) : wpAny (model prog w) A (subscriptTail value slice (.ref a) (.ref h.objs.size)) Q E ⟨h.push (sliceO vl vu), gn, d, tk, os⟩ := by
  obtain ⟨F2, N2, l2⟩ := ks_newsPush (s := ⟨h, gn, d, tk, os⟩) (o := sliceO vl vu) F N rfl (Heap.get?_push_at rfl rfl) (fun b o e => Heap.get?_push_of_some _ e)
  have hl2 : (h.push (sliceO vl vu)).IsList a items := let ⟨o, e, r⟩ := hl; ⟨o, Heap.get?_push_of_some _ e, r⟩
  refine sub_sliceL (s := ⟨h.push (sliceO vl vu), gn, d, tk, os⟩) hl2 ⟨_, (N2 _ (.head _)).1, rfl, rfl⟩ pl pu hz ?_ hsub
  obtain ⟨F3, N3, l3⟩ := ks_newsPush (s := ⟨h.push (sliceO vl vu), gn, d, tk, os⟩) (o := listOf (slicePick items lo hi none) 0) F2 N2 rfl (Heap.get?_push_at rfl rfl) (fun b o e => Heap.get?_push_of_some _ e)
  exact hc _ _ _ F3 N3 fun p hp => l3 p (.tail _ hp)
end
end Mine
namespace Mine
open PyProof.Rows.LCg
section
variable {prog : Program} {w : World} {A : Around} {E : Value → Shared → Prop} {h₀ : Heap} {L : Addr} {m : Str → Option Value} {env : Env} {elt : PySem.Expr} {x : Str} {scope : Scope} {cl : List (Str × Addr)} {s : Shared} {S : List (Addr × Obj) → Prop} {P : Nat → Value → Prop} {Fin : List Value → List (Addr × Obj) → Prop}
theorem rest_of (n : Nat) (J : Nat → List Value → List (Addr × Obj) → Prop)
    (step : ∀ i v ys news I oI C oC D m₂ h tk (E' : Value → Shared → Prop), i < n → P i v → NsObj oC m₂ → m₂ x = some v → Fr h₀ L h m → News h₀ L h ((I, oI) :: (C, oC) :: (D, lst ys) :: news) → Off3 I C D news → ((@Ne Nat I C) ∧ (@Ne Nat I D) ∧ (@Ne Nat C D)) → J i ys news →
      wpAny (model prog w) A (eval elt (compEnvC scope cl C env)) (CompEnd h₀ L m { s with heap := h, toks := tk } I oI C oC D (lst ys) S (fun y news' => J (i + 1) (ys ++ [y]) news')) E' { s with heap := h, toks := tk })
    (fin : ∀ ys news, J n ys news → Fin ys news) : ∀ k i ys news, i + k = n → J i ys news → CompRest prog w A h₀ L m env elt x scope cl s S P Fin k i ys news
  | 0, i, ys, news, hk, j => by
    have e : i = n := by omega
    subst e
    exact CompRest.zero (fin _ _ j)
  | k + 1, i, ys, news, hk, j => CompRest.succ fun v I oI C oC D m₂ h tk E' hP hC hx F N off ne =>
    wpAny_mono (step i v ys news I oI C oC D m₂ h tk E' (by (clear ne; lia)) hP hC hx F N off ne j) (fun y s' hy => by
      obtain ⟨h', tk', news', e1, F', N', o', hS, hr⟩ := hy
      exact ⟨h', tk', news', e1, F', N', o', hS, rest_of n J step fin k (i + 1) _ _ (by (clear ne; lia)) hr⟩) fun _ _ z => z
theorem src_news {l : Addr} {vs : List Value} {k : Nat} {news : List (Addr × Obj)} {Fin' : Shared → List Value → List (Addr × Obj) → Prop} (J : Nat → List Value → List (Addr × Obj) → Prop)
    (hh : A.handled = none) (F : Fr h₀ L s.heap m) (N : News h₀ L s.heap news) (h0 : J 0 [] news) (hz : vs.length < 1000000)
    (hsrc : ∀ i ys nw, J i ys nw → (l, listOf vs.toArray k) ∈ nw)
    (step : ∀ i v ys nw I oI C oC D m₂ h tk (E' : Value → Shared → Prop), vs[i]? = some v → NsObj oC m₂ → m₂ x = some v → Fr h₀ L h m → News h₀ L h ((I, oI) :: (C, oC) :: (D, lst ys) :: nw) → Off3 I C D nw → ((@Ne Nat I C) ∧ (@Ne Nat I D) ∧ (@Ne Nat C D)) → J i ys nw →
      wpAny (model prog w) A (eval elt (compEnvC scope cl C env)) (CompEnd h₀ L m { s with heap := h, toks := tk } I oI C oC D (lst ys) (fun _ => True) (fun y nw' => J (i + 1) (ys ++ [y]) nw')) E' { s with heap := h, toks := tk })
    (fin : ∀ g ys nw, J vs.length ys nw → Fin' { s with heap := g } ys nw) :
    CompSrc prog w A h₀ L m env elt x scope cl Fin' (.ref l) s := by
  refine CompSrc.ledger (k := k) hh F N (hsrc _ _ _ h0) (by rw [List.size_toArray, sizeLine_eq]; lia) fun g9 => ?_
  refine rest_of (S := SrcAt h₀ l vs.toArray) vs.toArray.size J (fun i v ys nw I oI C oC D m₂ h tk E' hi hP hC hx' F' N' off ne j => ?_) (fun ys nw j => ?_) _ _ _ _ (by (clear hz; lia)) h0
  · refine wpAny_mono (step i v ys nw I oI C oC D m₂ h tk E' (by simpa using hP) hC hx' F' N' off ne j) (fun y s' hy => ?_) fun _ _ z => z
    obtain ⟨h', tk', news', e1, F2, N2, o2, -, hr⟩ := hy
    exact ⟨h', tk', news', e1, F2, N2, o2, .inr ⟨_, hsrc _ _ _ hr, rfl, _, rfl⟩, hr⟩
  · exact fin _ ys nw (by simpa using j)
theorem src_same {l : Addr} {vs : List Value} {k : Nat} {news : List (Addr × Obj)} {Fin' : Shared → List Value → List (Addr × Obj) → Prop} (J : Nat → List Value → Prop)
    (hh : A.handled = none) (F : Fr h₀ L s.heap m) (N : News h₀ L s.heap news) (h0 : J 0 []) (hz : vs.length < 1000000)
    (hsrc : (l, listOf vs.toArray k) ∈ news)
    (step : ∀ i v ys I oI C oC D m₂ h tk (E' : Value → Shared → Prop), vs[i]? = some v → NsObj oC m₂ → m₂ x = some v → Fr h₀ L h m → News h₀ L h ((I, oI) :: (C, oC) :: (D, lst ys) :: news) → Off3 I C D news → ((@Ne Nat I C) ∧ (@Ne Nat I D) ∧ (@Ne Nat C D)) → J i ys →
      wpAny (model prog w) A (eval elt (compEnvC scope cl C env)) (CompEnd h₀ L m { s with heap := h, toks := tk } I oI C oC D (lst ys) (fun _ => True) (fun y nw' => nw' = news ∧ J (i + 1) (ys ++ [y]))) E' { s with heap := h, toks := tk })
    (fin : ∀ g ys, J vs.length ys → Fin' { s with heap := g } ys news) :
    CompSrc prog w A h₀ L m env elt x scope cl Fin' (.ref l) s := by
  refine src_news (k := k) (fun i ys nw => nw = news ∧ J i ys) hh F N ⟨rfl, h0⟩ hz (fun i ys nw h => by rw [h.1]; exact hsrc) (fun i v ys nw I oI C oC D m₂ h tk E' hv hC hx F' N' off ne j => ?_) fun g ys nw j => ?_
  · obtain ⟨rfl, j⟩ := j
    exact step i v ys I oI C oC D m₂ h tk E' hv hC hx F' N' off ne j
  · obtain ⟨rfl, j⟩ := j
    exact fin g ys j
end
end Mine
namespace Mine
inductive Stop : Prop → Prop
  | a {p w A a b c d e Q E s} : Stop (wpAny (model p w) A (exec (Stmt.While a b c d) e) Q E s)
  | b {p w A a b c d f e Q E s} : Stop (wpAny (model p w) A (exec (Stmt.For a b c d f) e) Q E s)
  | c {p w A a b c Q E s} : Stop (wpAny (model p w) A (call (Value.ref a) b c) Q E s)
  | d {p w A a b c d Q E s} : Stop (wpAny (model p w) A (call (Value.builtin a) (Value.ref b :: c) d) Q E s)
  | e {p w A a b c d Q E s} : Stop (wpAny (model p w) A (subscriptTail a b (Value.ref c) d) Q E s)
  | f {p w A a b c Q E s} : Stop (wpAny (model p w) A (setItem (Value.ref a) b c) Q E s)
  | g {a b c} : Stop (WhlIf a b c)
  | h {x y z A a b c d e f g i j k} : Stop (PyProof.Rows.LCg.CompSrc x y z A a b c d e f g i j k)
  | i {p w A a b c d e Q E s} : Stop (wpAny (model p w) A (eval (Expr.ListComp a b c d) e) Q E s)
  | m {p w A a b c d e Q E s} : Stop (wpAny (model p w) A (eval (Expr.GeneratorExp a b c d) e) Q E s)
  | j {p w A a b Q E s} : Stop (wpAny (model p w) A (binaryOp Operator.Mult (Value.ref a) b) Q E s)
  | k {p w A a b c d e f g Q E s} : Stop (wpAny (model p w) A (exec (Stmt.Assign a (Expr.ListComp b c d e) f) g) Q E s)
  | l {p w A a b c Q E s} : Stop (wpAny (model p w) A (compareOp a (Value.ref b) c) Q E s)
inductive StopT : Prop → Prop
  | a {p w A a Q E s} : StopT (wpAny (model p w) A (truthy (Value.ref a)) Q E s)
  | b {p w A a b c d Q E s} : StopT (wpAny (model p w) A (call (Value.type a) (Value.ref b :: c) d) Q E s)
theorem Stop.go {p : Prop} (_ : Stop p) (h : p) : p := h
theorem StopT.go {p : Prop} (_ : StopT p) (h : p) : p := h
inductive Fd : Prop → Prop
  | a {p w A a b Q E s} : Fd (wpAny (model p w) A (exec a b) Q E s)
  | b {p w A a b Q E s} : Fd (wpAny (model p w) A (eval a b) Q E s)
inductive Nf : Prop → Prop
  | a {p w A a b c Q E s} : Nf (wpAny (model p w) A (eval (Expr.Name a b) c) Q E s)
  | b {p w A a b c d Q E s} : Nf (wpAny (model p w) A (eval (Expr.Constant a b c) d) Q E s)
theorem Fd.go {p : Prop} (_ : Fd p) (h : p) : p := h
theorem Nf.go {p : Prop} (_ : Nf p) (h : p) : p := h
theorem rm {a b k c : Nat} (h : a < b) (hc : Nat.ble (b + k) c = true) : a + k < c := Nat.lt_of_lt_of_le (Nat.add_lt_add_right h k) (Nat.le_of_ble_eq_true hc)
theorem rm0 {a b c : Nat} (h : a < b) (hc : Nat.ble b c = true) : a < c := Nat.lt_of_lt_of_le h (Nat.le_of_ble_eq_true hc)
end Mine
namespace Mine
section
variable {prog : Program} {w : World} {A : Around} {s : Shared} {env : Env} {tgt : PySem.Expr} {pos : Pos} {iter : PySem.Expr} {body orelse : List Stmt} {Q : Flow → Shared → Prop}
theorem for_DT (h : wpAny (model prog w) A (eval iter env) (fun xv s₁ => wpAny (model prog w) A (pyIter xv) (fun it s₂ => ∃ (I : Nat → Shared → Prop) (n : Nat), I n s₂ ∧
      ∀ n s, I n s → wpAny (model prog w) A (pyNext it) (fun r s₃ => match r with
        | none => wpAny (model prog w) A (execs orelse env) Q FF s₃
        | some v => wpAny (model prog w) A (letOwnedTupleGo tgt it v) (fun _ s₅ => wpAny (model prog w) A (assign tgt env v) (fun _ s₄ => wpAny (model prog w) A (execs body env) (ForP I Q n) FF s₄) FF s₅) FF s₃) FF s) FF s₁) FF s)
    (hf : ∀ v, foldedSetIterable iter env v = pure v := by intro _; rfl) :
    wpAny (model prog w) A (exec (.For tgt iter body orelse pos) env) Q FF s := by
  refine wpAny_For (wpAny_mono h (fun xv s₁ h₁ => wpAny_mono h₁ (fun it s₂ h₂ => ?_) fun _ _ z => z.elim) fun _ _ z => z.elim) hf
  obtain ⟨I, n, hI, turn⟩ := h₂
  refine codeAny_forLoop_any I (fun n s hI => wpAny_mono (turn n s hI) (fun r s₃ h₃ => ?_) fun _ _ z => z.elim) n hI
  cases r with
  | none => exact wpAny_mono h₃ (fun f s' z => z) fun _ _ z => z.elim
  | some v =>
    refine wpAny_mono h₃ (fun _ s₅ h₅ => wpAny_mono h₅ (fun _ s₄ h₄ => wpAny_mono h₄ (fun f s₅ h₅ => ?_) fun _ _ z => z.elim) fun _ _ z => z.elim) fun _ _ z => z.elim
    cases f with
    | next => exact h₅
    | cont => exact h₅
    | brk => exact h₅
    | ret v => exact h₅
theorem for_listT {elts : List PySem.Expr} {x1 : Nat} {tp : Pos} (g : Heap) (L : Addr) (l : Addr) (vs : List Value) (k : Nat) {m₀ : Str → Option Value} {news₀ : List (Addr × Obj)} (J : Nat → Array GenState → (Str → Option Value) → List (Addr × Obj) → Prop) (hh : A.handled = none)
    (F : Fr g L s.heap m₀) (N : News g L s.heap ((l, listOf vs.toArray k) :: news₀)) (h0 : J 0 s.gens m₀ news₀) (cJ : ∀ i g' m news, J i g' m news → ∀ p ∈ news, p.2.cls ≠ .type "list_iterator" ∨ ∃ o, (p.1, o) ∈ news₀) (hT : ∀ v ∈ vs, ∃ T, v = .ref T)
    (he : wpAny (model prog w) A (eval iter env) (fun v s' => v = .ref l ∧ s' = s) FF s)
    (turn : ∀ i v h' g' tk m news oI, vs[i]? = some v → J i g' m news → Fr g L h' m → News g L h' ((s.heap.objs.size, oI) :: (l, listOf vs.toArray k) :: news) → (∀ p ∈ (l, listOf vs.toArray k) :: news₀, p.1 < s.heap.objs.size) →
        wpAny (model prog w) A (assign (.Tuple elts x1 tp) env v) (fun _ s₄ => wpAny (model prog w) A (execs body env) (LpP g L s s.heap.objs.size oI [(l, listOf vs.toArray k)] J Q i) FF s₄) FF { s with heap := h', gens := g', toks := tk })
    (fin : ∀ h' g' tk m news, J vs.length g' m news → Fr g L h' m → News g L h' ((l, listOf vs.toArray k) :: news) → wpAny (model prog w) A (execs orelse env) Q FF { s with heap := h', gens := g', toks := tk })
    (hf : ∀ v, foldedSetIterable iter env v = pure v := by intro _; rfl) :
    wpAny (model prog w) A (exec (.For (.Tuple elts x1 tp) iter body orelse pos) env) Q FF s := by
  refine for_DT (wpAny_mono he (fun xv s₁ h₁ => ?_) fun _ _ z => z) hf
  obtain ⟨rfl, rfl⟩ := h₁
  have hl : s₁.heap.IsList l vs.toArray := ⟨_, (N _ (.head _)).1, rfl, _, rfl⟩
  have hlt : l < s₁.heap.objs.size := Heap.lt_size (N _ (.head _)).1
  refine wpAny_pyIter_list hl ?_
  obtain ⟨F', N', l'⟩ := ks_newsPush (s := s₁) (o := { cls := .type "list_iterator", data := .fields #[.ref l, .int 0 0] }) F N rfl (Heap.get?_push_at rfl rfl) (fun b o e => Heap.get?_push_of_some _ e)
  have W := Walks.list (prog := prog) (w := w) (A := A) hh s₁.heap.objs.size l (Nat.ne_of_lt hlt) vs.toArray
  obtain ⟨nI, gI⟩ := (N' _ (.head _)).2
  refine ⟨fun k' s' => ∃ i, k' + i = vs.length ∧ (s'.heap.IsListIter s₁.heap.objs.size l i ∧ s'.heap.IsList l vs.toArray) ∧ ∃ h g' t m news, s' = { s₁ with heap := h, gens := g', toks := t } ∧ Fr g L h m ∧ News g L h ((l, listOf vs.toArray k) :: news) ∧ J i g' m news, vs.length,
    ⟨0, rfl, ⟨⟨_, Heap.get?_push_at rfl rfl, rfl, rfl⟩, ⟨_, (N' _ (.tail _ (.head _))).1, rfl, _, rfl⟩⟩, _, s₁.gens, s₁.toks, m₀, news₀, rfl, F', fun p hp => N' p (.tail _ hp), h0⟩, ?_⟩
  rintro k' s' ⟨i, hk, st, h, g', t, m, news, rfl, F2, N2, j⟩
  obtain ⟨oo, eo, co, -⟩ := st.1
  have off : ∀ p ∈ (l, listOf vs.toArray k) :: news, p.1 ∉ [s₁.heap.objs.size] := fun p hp hb => by
    have e := (N2 p hp).1
    rw [List.mem_singleton.mp hb, eo] at e
    have e2 : oo = p.2 := Option.some.inj e
    rcases List.mem_cons.mp hp with rfl | hp
    · rw [e2] at co
      exact absurd co (by simp)
    · exact (cJ _ _ _ _ j p hp).elim (fun q => q (e2 ▸ co)) fun ⟨o, ho⟩ => absurd (List.mem_singleton.mp hb) (Nat.ne_of_lt (l' (p.1, o) (.tail _ ho)))
  by_cases hi : i < vs.length
  · refine W.item i _ _ _ (by simpa using hi) st fun v h' tk hP hst' hk' => ?_
    have hv : vs[i]? = some v := by simpa using hP
    obtain ⟨T, rfl⟩ := hT v (List.mem_of_getElem? hv)
    refine wpAny_letOwnedTupleGo_listiter hst'.1 ?_
    have F3 := Mine.Fr.kept (h' := h') (D := [s₁.heap.objs.size]) F2 (fun b ob hb e => hk' b ob hb e) (fun b hb => by rw [List.mem_singleton.mp hb]; exact gI) (fun hb => nI (List.mem_singleton.mp hb).symm)
    have N3 := News.kept (h' := h') (D := [s₁.heap.objs.size]) N2 (fun b ob hb e => hk' b ob hb e) off
    obtain ⟨oI, eI, cI, dI⟩ := hst'.1
    have N4 : News g L h' ((s₁.heap.objs.size, oI) :: (l, listOf vs.toArray k) :: news) := News.cons N3 eI gI nI
    refine wpAny_mono (turn i (.ref T) h' g' tk m news oI hv j F3 N4 l') (fun _ s₄ h₄ => wpAny_mono h₄ (fun f s₅ h₅ => ?_) fun _ _ z => z) fun _ _ z => z
    have go : (∃ h g' t m news, s₅ = { s₁ with heap := h, gens := g', toks := t } ∧ Fr g L h m ∧ News g L h ((s₁.heap.objs.size, oI) :: ([(l, listOf vs.toArray k)] ++ news)) ∧ J (i + 1) g' m news) →
        ∃ m', m' < k' ∧ ∃ i, m' + i = vs.length ∧ (s₅.heap.IsListIter s₁.heap.objs.size l i ∧ s₅.heap.IsList l vs.toArray) ∧ ∃ h g' t m news, s₅ = { s₁ with heap := h, gens := g', toks := t } ∧ Fr g L h m ∧ News g L h ((l, listOf vs.toArray k) :: news) ∧ J i g' m news := by
      rintro ⟨h9, g9, t9, m9, news9, rfl, F9, N9, j9⟩
      exact ⟨k' - 1, by omega, i + 1, by lia, ⟨⟨oI, (N9 _ (.head _)).1, cI, dI⟩, ⟨_, (N9 _ (.tail _ (.head _))).1, rfl, _, rfl⟩⟩, h9, g9, t9, m9, news9, rfl, F9, fun p hp => N9 p (.tail _ hp), j9⟩
    cases f with
    | next => exact go h₅
    | cont => exact go h₅
    | brk => exact h₅
    | ret v => exact h₅
  · have e : i = vs.length := by lia
    subst e
    refine W.done _ _ _ (by simpa using st) fun h' tk hk' => ?_
    have F3 := Mine.Fr.kept (h' := h') (D := [s₁.heap.objs.size]) F2 (fun b ob hb e => hk' b ob hb e) (fun b hb => by rw [List.mem_singleton.mp hb]; exact gI) (fun hb => nI (List.mem_singleton.mp hb).symm)
    have N3 := News.kept (h' := h') (D := [s₁.heap.objs.size]) N2 (fun b ob hb e => hk' b ob hb e) off
    exact fin h' g' tk m news j F3 N3
end
end Mine
namespace Mine
section
variable {prog : Program} {w : World} {A : Around} {s : Shared} {env : Env} {x : Str} {px pos : Pos} {iter : PySem.Expr} {body orelse : List Stmt} {Q : Flow → Shared → Prop}
theorem size_up (a n : Nat) : Builtin.Range.rangeSize (a : Int) ((a + n : Nat) : Int) 1 = (n : Int) := by
  unfold Builtin.Range.rangeSize
  simp
  lia
inductive RGo (s0 : Shared) (g : Heap) (L : Addr) (a n : Nat) (news₀ : List (Addr × Obj)) (J : Nat → Array GenState → (Str → Option Value) → List (Addr × Obj) → Prop) : Value → Shared → Prop
  | mk {R : Addr} {lo hi : Int} {t1 t2 t3 : Tok} {h : Heap} {t : Nat} {m : Str → Option Value} : IsRange h R lo hi 1 t1 t2 t3 → lo = (a : Int) → hi = ((a + n : Nat) : Int) → Fr g L h m → News g L h news₀ → J 0 s0.gens m news₀ → RGo s0 g L a n news₀ J (.ref R) { s0 with heap := h, toks := t }
theorem small_upN (a n : Nat) (h : a + n < 100000) : Builtin.Range.small (a : Int) ((a + n : Nat) : Int) 1 = true := by
  unfold Builtin.Range.small
  rw [size_up a n]
  simp [Builtin.Range.rangeFitsLong]
  omega
theorem for_RC (g : Heap) (L : Addr) (a n : Nat) (news₀ : List (Addr × Obj)) (J : Nat → Array GenState → (Str → Option Value) → List (Addr × Obj) → Prop) (hh : A.handled = none) (hz : a + n < 100000)
    (he : wpAny (model prog w) A (eval iter env) (RGo s g L a n news₀ J) FF s)
    (cJ : ∀ i g' m news, J i g' m news → ∀ p ∈ news, p.2.cls ≠ .type "range_iterator" ∨ ∃ o, (p.1, o) ∈ news₀)
    (turn : ∀ i ti h' g' tk m news I oI, i < n → J i g' m news → Fr g L h' m → News g L h' ((I, oI) :: news) → (∀ p ∈ news₀, p.1 < I) →
        wpAny (model prog w) A (storeName env x (.int ((a + i : Nat) : Int) ti)) (fun _ s₄ => wpAny (model prog w) A (execs body env) (LpP g L s I oI [] J Q i) FF s₄) FF { s with heap := h', gens := g', toks := tk })
    (fin : ∀ h' g' tk m news, J n g' m news → Fr g L h' m → News g L h' news → wpAny (model prog w) A (execs orelse env) Q FF { s with heap := h', gens := g', toks := tk })
    (hf : ∀ v, foldedSetIterable iter env v = pure v := by intro _; rfl) :
    wpAny (model prog w) A (exec (.For (.Name x px) iter body orelse pos) env) Q FF s := by
  refine for_NC g L s (wpAny_mono he (fun xv s₁ h₁ => ?_) fun _ _ z => z) hf
  obtain @⟨R, lo, hi, t1, t2, t3, h, t, m, hR, rfl, rfl, F, N, j⟩ := h₁
  refine wpAny_pyIter_range hR (small_upN a n hz) ?_
  rw [size_up]
  obtain ⟨FE, NE, lE⟩ := ks_newsPush (s := { s with heap := h, toks := t }) (o := { cls := .type "range_iterator", data := .fields #[rawInt (a : Int), rawInt (n : Int), rawInt 1] }) F N rfl (Heap.get?_push_at rfl rfl) (fun b o e => Heap.get?_push_of_some _ e)
  refine ⟨[], h.objs.size, n, _, _, "range_iterator", J, rfl, Walks.range hh h.objs.size (a : Int) 1 n, fun i h st => ⟨_, st, rfl⟩, ?_, (NE _ (.head _)).2.2, (NE _ (.head _)).2.1, ⟨_, s.gens, t, m, news₀, rfl, FE, fun p hp => NE p (.tail _ hp), j⟩, fun p hp => no_mem hp, fun i g' m news j p hp => (cJ i g' m news j p hp).imp id fun ⟨o, ho⟩ => Nat.ne_of_lt (lE (p.1, o) ho), ?_, fin⟩
  · have e9 := (NE _ (.head _)).1
    show Heap.get? _ _ = _
    simpa using e9
  · rintro i v h' g' tk m news oI hi ⟨ti, rfl⟩ j F2 N2
    have e : (a : Int) + (i : Int) * 1 = ((a + i : Nat) : Int) := by lia
    rw [e]
    exact turn i ti h' g' tk m news _ oI hi j F2 N2 lE
theorem for_R (g : Heap) (L : Addr) (a n : Nat) (news₀ : List (Addr × Obj)) (J : Nat → Array GenState → (Str → Option Value) → List (Addr × Obj) → Prop) (hh : A.handled = none) (hz : a + n < 100000)
    (he : wpAny (model prog w) A (eval iter env) (RGo s g L a n news₀ J) FF s)
    (cJ : ∀ i g' m news, J i g' m news → ∀ p ∈ news, p.2.cls ≠ .type "range_iterator")
    (turn : ∀ i ti h' g' tk m news I oI, i < n → J i g' m news → Fr g L h' m → News g L h' ((I, oI) :: news) → (∀ p ∈ news₀, p.1 < I) →
        wpAny (model prog w) A (storeName env x (.int ((a + i : Nat) : Int) ti)) (fun _ s₄ => wpAny (model prog w) A (execs body env) (LpP g L s I oI [] J Q i) FF s₄) FF { s with heap := h', gens := g', toks := tk })
    (fin : ∀ h' g' tk m news, J n g' m news → Fr g L h' m → News g L h' news → wpAny (model prog w) A (execs orelse env) Q FF { s with heap := h', gens := g', toks := tk })
    (hf : ∀ v, foldedSetIterable iter env v = pure v := by intro _; rfl) :
    wpAny (model prog w) A (exec (.For (.Name x px) iter body orelse pos) env) Q FF s :=
  for_RC g L a n news₀ J hh hz he (fun i g' m news j p hp => .inl (cJ i g' m news j p hp)) turn fin hf
end
end Mine
namespace Mine
open PyProof.Rows.LCg PyProof.Rows.LCt
section
variable {prog : Program} {w : World} {A : Around} {h₀ : Heap} {L : Addr} {m : Str → Option Value} {env : Env} {ct elt : PySem.Expr} {x : Str} {scope : Scope} {cl : List (Str × Addr)} {s : Shared} {S : List (Addr × Obj) → Prop} {P : Nat → Value → Prop} {Fin : List Value → List (Addr × Obj) → Prop} {news : List (Addr × Obj)}
noncomputable def TurnT (prog : Program) (w : World) (A : Around) (h₀ : Heap) (L : Addr) (m : Str → Option Value) (env : Env) (ct elt : PySem.Expr) (x : Str) (scope : Scope) (cl : List (Str × Addr)) (s : Shared) (news : List (Addr × Obj)) (P : Nat → Value → Prop) (J : Nat → List Value → Prop) (n : Nat) : Prop :=
  ∀ i v ys I oI C oC D m₂ h tk (E' : Value → Shared → Prop), i < n → P i v → NsObj oC m₂ → m₂ x = some v → Fr h₀ L h m → News h₀ L h ((I, oI) :: (C, oC) :: (D, lst ys) :: news) → Off3 I C D news → ((@Ne Nat I C) ∧ (@Ne Nat I D) ∧ (@Ne Nat C D)) → J i ys →
    wpAny (model prog w) A (isTrue ct (compEnvC scope cl C env) (eval ct (compEnvC scope cl C env))) (fun ok s' => WhlIf ok
      (wpAny (model prog w) A (eval elt (compEnvC scope cl C env)) (CompEnd h₀ L m { s with heap := h, toks := tk } I oI C oC D (lst ys) (fun _ => True) (fun y nw' => nw' = news ∧ J (i + 1) (ys ++ [y]))) E' s')
      (CompEnd h₀ L m { s with heap := h, toks := tk } I oI C oC D (lst ys) (fun _ => True) (fun _ nw' => nw' = news ∧ J (i + 1) ys) Value.none s')) E' { s with heap := h, toks := tk }
theorem rest_ofT (n : Nat) (J : Nat → List Value → Prop) (hS : S news) (step : TurnT prog w A h₀ L m env ct elt x scope cl s news P J n) (fin : ∀ ys, J n ys → Fin ys news) :
    ∀ k i ys, i + k = n → J i ys → CompRestT prog w A h₀ L m env ct elt x scope cl s S P Fin k i ys news
  | 0, i, ys, hk, j => by
    have e : i = n := by omega
    subst e
    exact CompRestT.zero (fin _ j)
  | k + 1, i, ys, hk, j => CompRestT.succ fun v I oI C oC D m₂ h tk E' hP hC hx F N off ne =>
    wpAny_mono (step i v ys I oI C oC D m₂ h tk E' (by lia) hP hC hx F N off ne j) (fun ok s' hy => by
      cases ok with
      | true =>
        rw [if_pos rfl]
        have hy' : wpAny (model prog w) A (eval elt (compEnvC scope cl C env)) (CompEnd h₀ L m { s with heap := h, toks := tk } I oI C oC D (lst ys) (fun _ => True) (fun y nw' => nw' = news ∧ J (i + 1) (ys ++ [y]))) E' s' := hy
        exact wpAny_mono hy' (fun y s'' hz => by
          obtain ⟨h', tk', news', e1, F', N', o', -, hn, hr⟩ := hz
          have hn' := hn.symm
          subst hn'
          exact ⟨h', tk', _, e1, F', N', o', hS, rest_ofT n J hS step fin k (i + 1) _ (by lia) hr⟩) fun _ _ z => z
      | false =>
        rw [if_neg (by decide)]
        have hy' : CompEnd h₀ L m { s with heap := h, toks := tk } I oI C oC D (lst ys) (fun _ => True) (fun _ nw' => nw' = news ∧ J (i + 1) ys) Value.none s' := hy
        obtain ⟨h', tk', news', e1, F', N', o', -, hn, hr⟩ := hy'
        have hn' := hn.symm
        subst hn'
        exact ⟨h', tk', _, e1, F', N', o', hS, rest_ofT n J hS step fin k (i + 1) _ (by omega) hr⟩) fun _ _ z => z
theorem srcT_same {l : Addr} {vs : List Value} {k : Nat} {Fin' : Shared → List Value → List (Addr × Obj) → Prop} (J : Nat → List Value → Prop)
    (hh : A.handled = none) (F : Fr h₀ L s.heap m) (N : News h₀ L s.heap news) (h0 : J 0 []) (hz : vs.length < 1000000) (hsrc : (l, listOf vs.toArray k) ∈ news)
    (step : ∀ g, TurnT prog w A h₀ L m env ct elt x scope cl { s with heap := g } news (fun i v => vs.toArray[i]? = some v) J vs.toArray.size)
    (fin : ∀ g ys, J vs.toArray.size ys → Fin' { s with heap := g } ys news) : CompSrcT prog w A h₀ L m env ct elt x scope cl Fin' (.ref l) s :=
  CompSrcT.ledger (k := k) hh F N hsrc (by rw [List.size_toArray, sizeLine_eq]; lia) fun g => rest_ofT vs.toArray.size J (.inr ⟨_, hsrc, rfl, _, rfl⟩) (step g) (fin g) _ _ _ (by lia) h0
theorem srcT_range {r : Addr} {lo hi : Int} {t u v : Tok} {n : Nat} {Fin' : Shared → List Value → List (Addr × Obj) → Prop} (J : Nat → List Value → Prop)
    (hh : A.handled = none) (F : Fr h₀ L s.heap m) (N : News h₀ L s.heap news) (h0 : J 0 []) (a : Nat) (hr : IsRange s.heap r lo hi 1 t u v) (hlo : lo = (a : Int)) (hhi : hi = ((a + n : Nat) : Int)) (hz : a + n < 100000)
    (step : ∀ g, TurnT prog w A h₀ L m env ct elt x scope cl { s with heap := g } news (fun i v => ∃ t, v = .int (lo + (i : Int)) t) J n)
    (fin : ∀ g ys, J n ys → Fin' { s with heap := g } ys news) : CompSrcT prog w A h₀ L m env ct elt x scope cl Fin' (.ref r) s := by
  subst hlo hhi
  exact CompSrcT.range hh F N hr (small_upN a n hz) (size_up a n) (by rw [sizeLine_eq]; lia) fun g => rest_ofT n J trivial (step g) (fin g) _ _ _ (by lia) h0
end
end Mine
namespace Mine
theorem bindL_all {kd : Str → Option NameKind} : ∀ {binds : List (Str × Value)} {m cm : Str → Option Value}, (∀ y ∈ binds, kd y.1 = some .local) →
    bindL kd binds m = (fun y => (binds.reverse.lookup y).or (m y)) ∧ bindC kd binds cm = cm
  | [], m, cm, _ => ⟨rfl, rfl⟩
  | (n, v) :: r, m, cm, h => by
    have hn : kd n = some .local := h _ (.head _)
    have ih := fun m => bindL_all (kd := kd) (binds := r) (m := m) (cm := cm) fun y hy => h y (.tail _ hy)
    constructor
    · show bindL kd r (if kd n = some .local then fun y => if y = n then some v else m y else m) = _
      rw [if_pos hn, (ih _).1]
      funext y
      rw [List.reverse_cons, List.lookup_append]
      show _ = ((List.lookup y r.reverse).or (match y == n with | true => some v | false => none)).or (m y)
      cases List.lookup y r.reverse with
      | some _ => rfl
      | none =>
        by_cases e : y = n
        · subst e; simp
        · rw [show (y == n) = false from beq_eq_false_iff_ne.mpr e, if_neg e]; rfl
    · show bindC kd r (if kd n = some .local then cm else _) = _
      rw [if_pos hn]
      exact (ih m).2
section
variable {prog : Program} {w : World} {K : Frag} {p : Program} {loose : List Str} {mean : ExcName → Option Value} {mg mb : Str → Option Value}
theorem enterC {base : Heap} {dp un : Nat} {gd : Option (List Code)} {fr : List Env} {s : Shared} {R : Result → Shared → Prop} {name qual : Str} {params : Arguments} {body : List Stmt} {scope : Scope} {dV kV doc pm cdv ct oc : Value} {an od : Option Addr} {osl : Array (Option Value)} {f : Addr} {args : Args} {binds : List (Str × Value)} (cn : Str) (rb : List (Str × Value))
    (D : List (Addr × Obj)) (X : K.In base) (T : Top p loose mean mg mb base) (hS : base.StaysIn s.heap) (hD : ∀ q ∈ D, s.heap.get? q.1 = some q.2 ∧ base.get? q.1 = none)
    (ho : K.lookup f = some ⟨oc, od, .func (fnOf name qual params body scope dV kV doc pm an cdv ct), osl⟩) (hcd : codeIn K cdv qual = true) (hroom : dp < recursionLimit)
    (hbind : BindsTo s (fnOf name qual params body scope dV kV doc pm an cdv ct) args binds) (hloc : ∀ y ∈ binds, scope.names.lookup y.1 = some .local) (hrb : binds.reverse = rb)
    (h : ∀ g L C oC h₁ fr' tk, Fr g L h₁ (fun y => rb.lookup y) → News g L h₁ ((C, oC) :: D) → oC.data = .cell none → K.In g → Top p loose mean mg mb g → Keep (D.map Prod.fst) s.heap g → (∀ b o, s.heap.get? b = some o → b < L) → L < C →
      wpAny (model prog w) (amb (dp + 1) (un + 3) gd fr') (execs body (envX qual scope L f cdv [(cn, C)])) (fun fl s' => R (.ok (.ret (match fl with | .ret v => v | _ => .none))) s') FF { s with heap := h₁, toks := tk })
    (hco : scope.isCoroutine = false) (hgen : scope.isGenerator = false) (hk : scope.kind = .function)
    (hcell : ∀ n, cellsFrom n scope.names [] = [(cn, n)]) : codeAny (model prog w) (amb dp un gd fr) (.call (.ref f) args) R s := by
  have XS := X.keeps hS
  refine codeAny_call_function hroom (XS _ _ ho) rfl hco hgen rfl (codeRec_of XS hcd) (hbind _ _ _ _ ?_)
  refine wpAny_newFunctionEnv_cells hk (fun x hx => .inl (hloc x hx)) fun env' he s' x => ?_
  subst he
  refine ⟨(T.nolimit.keeps hS).keeps x.toInCall.keep, codeAny_func ?_⟩
  obtain ⟨h₁, tk, rfl, _⟩ := x.done
  have hk₁ := x.toInCall.keep
  have hcc := hcell (s.heap.objs.size + 1)
  have hcl : (newEnv scope s.heap.objs.size mainGlobals (cellsFrom (s.heap.objs.size + 1) scope.names []) (qual ++ ".<locals>.") (some f) cdv none builtinsNs) = envX qual scope s.heap.objs.size f cdv [(cn, s.heap.objs.size + 1)] := by
    rw [hcc]; rfl
  have B := bindL_all (m := fun _ => none) (cm := fun _ => none) (kd := (newEnv scope s.heap.objs.size mainGlobals (cellsFrom (s.heap.objs.size + 1) scope.names []) (qual ++ ".<locals>.") (some f) cdv none builtinsNs).kindOf) (binds := binds) hloc
  obtain ⟨oC, hoC, hdC⟩ := x.cell cn (s.heap.objs.size + 1) (by
    show List.lookup cn (cellsFrom (s.heap.objs.size + 1) scope.names []) = _
    rw [hcc]; simp)
  have hdC' : oC.data = .cell none := hdC.trans (by rw [B.2])
  have st : base.StaysIn (hideAll s.heap (D.map Prod.fst)) := fun b o e => hideAll_get _ (hS b o e) fun q => by
    obtain ⟨q', hq, rfl⟩ := List.mem_map.mp q
    rw [(hD q' hq).2] at e; cases e
  have lt : s.heap.objs.size < s.heap.objs.size + 1 := Nat.lt_succ_self _
  have fin := h (hideAll s.heap (D.map Prod.fst)) s.heap.objs.size (s.heap.objs.size + 1) oC h₁ (envX qual scope s.heap.objs.size f cdv [(cn, s.heap.objs.size + 1)] :: fr) tk
    ⟨by
      have e := x.toInCall.ns
      rw [B.1] at e
      rw [show (fun y => (List.lookup y binds.reverse).or none) = fun y => List.lookup y rb from funext fun y => by rw [Option.or_none, hrb]] at e
      exact e, fun b o e => hk₁ b o (of_hideAll _ e), Nat.le_of_eq (hideAll_size _ _)⟩
    (fun q hq => by
      rcases List.mem_cons.mp hq with rfl | hq
      · refine ⟨hoC, Nat.succ_ne_self _, ?_⟩
        cases z : (hideAll s.heap (D.map Prod.fst)).get? (s.heap.objs.size + 1) with
        | none => rfl
        | some o => exact absurd (Heap.lt_size (of_hideAll _ z)) (Nat.lt_asymm lt)
      · exact ⟨hk₁ _ _ (hD q hq).1, Nat.ne_of_lt (Heap.lt_size (hD q hq).1), hideAll_none _ (List.mem_map_of_mem (f := Prod.fst) hq)⟩)
    hdC' (X.keeps st) (T.keeps st) (fun b o hb e => hideAll_get _ e hb) (fun b o e => Heap.lt_size e) lt
  show wpAny (model prog w) ((amb dp un gd fr).deeper (newEnv scope s.heap.objs.size mainGlobals (cellsFrom (s.heap.objs.size + 1) scope.names []) (qual ++ ".<locals>.") (some f) cdv none builtinsNs)) (execs body (newEnv scope s.heap.objs.size mainGlobals (cellsFrom (s.heap.objs.size + 1) scope.names []) (qual ++ ".<locals>.") (some f) cdv none builtinsNs)) _ _ _
  rw [hcl]
  exact wpAny_mono fin (fun _ _ x => x) fun _ _ x => x.elim
end
end Mine
namespace Mine
open PyProof.Rows.LCg PyProof.Rows.LCt
section
variable {prog : Program} {w : World} {A : Around} {E : Value → Shared → Prop} {s : Shared} {h₀ : Heap} {L : Addr} {m : Str → Option Value} {env : Env}
theorem loopQ {ct elt iter : PySem.Expr} {elts : List PySem.Expr} {x1} {tp : Pos} {scope : Scope} {pos : Pos} {it acc : Value} {R : Result → Shared → Prop} (I : Nat → Shared → Prop)
    (turn : ∀ n s (E : Value → Shared → Prop), I n s → wpAny (model prog w) A (pyNext it) (fun r s₁ => match r with
      | none => R (.ok .next) s₁
      | some v => wpAny (model prog w) A (letOwnedTupleGo (.Tuple elts x1 tp) it v) (fun _ s₂ => wpAny (model prog w) A (assign (.Tuple elts x1 tp) env v) (fun _ s₃ => wpAny (model prog w) A (isTrue ct env (eval ct env)) (fun ok s₄ =>
          if ok = true then wpAny (model prog w) A (eval elt env) (fun x s₅ => wpAny (model prog w) A (call (.builtin "list.append") [acc, x]) (fun _ s₆ => ∃ m, m < n ∧ I m s₆) E s₅) E s₄
          else ∃ m, m < n ∧ I m s₄) E s₃) E s₂) E s₁) E s)
    (n : Nat) (h : I n s) : codeAny (model prog w) A (.compLoop (.ListComp elt [⟨.Tuple elts x1 tp, iter, [ct], 0⟩] scope pos) 0 it acc env) R s := by
  refine codeAny_loop rfl I (fun n s hI => ?_) n h
  show wpAny _ A ((compTurn (.ListComp elt [⟨.Tuple elts x1 tp, iter, [ct], 0⟩] scope pos) 0 it acc env).onRaise (fun x => do noteFrame x env; theTreesLotGoes x)) _ _ s
  refine wpAny_noted ?_
  rw [compTurn_list]
  refine wpAny_bind (wpAny_standAt (wpAny_bind (wpAny_mono (turn n s _ hI) (fun r s₁ h₁ => ?_) fun _ _ z => z)))
  cases r with
  | none => exact wpAny_pure h₁
  | some v =>
    refine wpAny_bind (wpAny_mono h₁ (fun _ s₂ h₂ => wpAny_bind (wpAny_mono h₂ (fun _ s₃ h₃ => wpAny_bind (wpAny_mono (wpAny_tests_one h₃) (fun ok s₄ h₄ => ?_) fun _ _ z => z)) fun _ _ z => z)) fun _ _ z => z)
    cases ok with
    | false => exact wpAny_pure ⟨rfl, h₄⟩
    | true => exact wpAny_bind (wpAny_bind (wpAny_mono h₄ (fun x s₅ h₅ => wpAny_bind (wpAny_mono h₅ (fun _ s₆ h₆ => wpAny_pure (wpAny_pure ⟨rfl, h₆⟩)) fun _ _ z => z)) fun _ _ z => z))
theorem whl_no {a b : Prop} (h : WhlIf false a b) : b := h
theorem runQ {ct elt iter : PySem.Expr} {x x₂ : Str} {px px₂ tp pos : Pos} {kk} {scope : Scope} {cl : List (Str × Addr)} {R : Result → Shared → Prop} {news : List (Addr × Obj)} {l I C D : Addr} {vs : List Value} {k : Nat} (J : Nat → List Value → Prop)
    (hm : (l, listOf vs.toArray k) ∈ news) (hz : vs.length < 1000000) (hT : ∀ v ∈ vs, ∃ T a b, v = .ref T ∧ IsTup h₀ T #[a, b])
    (hkind : scope.kind = .function) (hx : scope.names.lookup x = some .local) (hx₂ : scope.names.lookup x₂ = some .local) (hxx : x ≠ x₂) (hh : A.handled = none)
    (off : Off3 I C D news) (ne : (@Ne Nat I C) ∧ (@Ne Nat I D) ∧ (@Ne Nat C D)) (zI : @Ne Nat I L ∧ h₀.get? I = none) (zC : @Ne Nat C L ∧ h₀.get? C = none)
    (step : ∀ g i T a b ys oI oC m₂ h tk (E' : Value → Shared → Prop), vs[i]? = some (.ref T) → IsTup h₀ T #[a, b] → NsObj oC m₂ → m₂ x = some a → m₂ x₂ = some b → Fr h₀ L h m → News h₀ L h ((I, oI) :: (C, oC) :: (D, lst ys) :: news) → J i ys →
      wpAny (model prog w) A (isTrue ct (compEnvC scope cl C env) (eval ct (compEnvC scope cl C env))) (fun ok s' => WhlIf ok
        (wpAny (model prog w) A (eval elt (compEnvC scope cl C env)) (CompEnd h₀ L m { s with heap := g, toks := tk } I oI C oC D (lst ys) (fun _ => True) (fun y nw' => nw' = news ∧ J (i + 1) (ys ++ [y]))) E' s')
        (CompEnd h₀ L m { s with heap := g, toks := tk } I oI C oC D (lst ys) (fun _ => True) (fun _ nw' => nw' = news ∧ J (i + 1) ys) Value.none s')) E' { s with heap := h, toks := tk })
    (fin : ∀ h tk m' ys, J vs.length ys → Fr h₀ L h m → h.Ns C m' → News h₀ L h ((D, lst ys) :: news) → R (.ok .next) { s with heap := h, toks := tk })
    {h₁ : Heap} {tk₁ : Nat} {m₁ : Str → Option Value} (F₁ : Fr h₀ L h₁ m) (N₁ : News h₀ L h₁ ((D, lst []) :: news)) (n₁ : h₁.Ns C m₁) (st : h₁.IsListIter I l 0) (j0 : J 0 []) :
    codeAny (model prog w) A (.compLoop (.ListComp elt [⟨.Tuple [.Name x px, .Name x₂ px₂] kk tp, iter, [ct], 0⟩] scope pos) 0 (.ref I) (.ref D) (compEnvC scope cl C env)) R { s with heap := h₁, toks := tk₁ } := by
  have offm := off.mem
  have hlI : l ≠ I := (offm _ hm).1
  have hlC : l ≠ C := (offm _ hm).2.1
  have W := Walks.list (prog := prog) (w := w) (A := A) hh I l hlI vs.toArray
  refine loopQ (fun k' s' => ∃ h' tk i ys m', s' = { s with heap := h', toks := tk } ∧ i ≤ vs.length ∧ k' = vs.length + 1 - i ∧ ys.length ≤ i ∧ h'.IsListIter I l i ∧ Fr h₀ L h' m ∧ h'.Ns C m' ∧ News h₀ L h' ((D, lst ys) :: news) ∧ J i ys) ?_ (vs.length + 1) ⟨h₁, tk₁, 0, [], m₁, rfl, Nat.zero_le _, rfl, Nat.le_refl _, st, F₁, n₁, N₁, j0⟩
  rintro k' s' E' ⟨h', tk, i, ys, m', rfl, hi, rfl, hyl, hst, F', n', N', j⟩
  have hl' : h'.IsList l vs.toArray := ⟨_, (N' _ (.tail _ hm)).1, rfl, _, rfl⟩
  have offN : ∀ p ∈ (D, lst ys) :: news, p.1 ∉ [I] := fun p hp hb => by
    have hb := List.mem_singleton.mp hb
    rcases List.mem_cons.mp hp with rfl | hp
    · exact ne.2.1 hb.symm
    · exact (offm p hp).1 hb
  by_cases hlt : i < vs.length
  · refine W.item i _ _ _ (by simpa using hlt) ⟨hst, hl'⟩ fun v h₂ tk₂ hPv hst₂ hk₂ => ?_
    have hv : vs[i]? = some v := by simpa using hPv
    obtain ⟨T, a, b, rfl, hTT⟩ := hT v (List.mem_of_getElem? hv)
    have F₂ := Mine.Fr.kept (h' := h₂) (D := [I]) F' (fun b ob hb e => hk₂ b ob hb e) (fun b hb => by rw [List.mem_singleton.mp hb]; exact zI.2) (fun hb => zI.1 (List.mem_singleton.mp hb).symm)
    have N₂ := News.kept (h' := h₂) (D := [I]) N' (fun b ob hb e => hk₂ b ob hb e) offN
    refine wpAny_letOwnedTupleGo_listiter hst₂.1 ?_
    refine assign_Tuple_tuple hh (let ⟨o, e, r⟩ := hTT; ⟨o, F₂.keep _ _ e, r⟩) rfl rfl fun h₅ he => ?_
    have he' : ∀ b o, h₂.get? b = some o → h₅.get? b = some o := fun b o e => he b o (Nat.ne_of_lt (Heap.lt_size e)) e
    refine assignInOrder_cons (wpAny_assign_Name (wpAny_storeName_local (lookup_relabel_local hx) ((n'.at' fun o e => hk₂ _ o (by simpa using Ne.symm ne.1) e).at' fun o e => he' _ o e) (fun h₆ hn₆ hs₆ => ?_) (by simp [compEnvC, relabel, hkind])))
    refine assignInOrder_cons (wpAny_assign_Name (wpAny_storeName_local (lookup_relabel_local hx₂) hn₆ (fun h₃ hn₃ hs₃ => ?_) (by simp [compEnvC, relabel, hkind])))
    refine assignInOrder_nil ?_
    dsimp only
    have old3 : ∀ b o, @Ne Nat b C → h₂.get? b = some o → h₃.get? b = some o := fun b o hb e => hs₃.extBut b o hb (hs₆.extBut b o hb (he' b o e))
    obtain ⟨oI, eI, cI⟩ := hst₂.1
    obtain ⟨oC, heC, hoC⟩ := ns_obj hn₃
    have F₃ : Fr h₀ L h₃ m := ((F₂.keeps he').change hs₆ zC.1 zC.2).change hs₃ zC.1 zC.2
    have N₃ : News h₀ L h₃ ((I, oI) :: (C, oC) :: (D, lst ys) :: news) := News.cons (News.cons (fun p hp => ⟨old3 _ _ (by
      rcases List.mem_cons.mp hp with rfl | hp
      · exact Ne.symm ne.2.2
      · exact (offm p hp).2.1) (N₂ p hp).1, (N₂ p hp).2⟩) heC zC.2 zC.1) (old3 _ _ ne.1 eI) zI.2 zI.1
    refine wpAny_mono (step h' i T a b ys oI oC _ h₃ _ _ hv hTT hoC (by simp [hxx]) (by simp) F₃ N₃ j) (fun ok s₄ h₄ => ?_) fun _ _ e => e
    cases ok with
    | true =>
      rw [if_pos rfl]
      have h₄' : wpAny (model prog w) A (eval elt (compEnvC scope cl C env)) (CompEnd h₀ L m { s with heap := h', toks := _ } I oI C oC D (lst ys) (fun _ => True) (fun y nw' => nw' = news ∧ J (i + 1) (ys ++ [y]))) _ s₄ := h₄
      refine wpAny_mono h₄' (fun y s₅ h₅ => ?_) fun _ _ e => e
      obtain ⟨h₄, tk₄, news₄, rfl, F₄, N₄, -, -, hn, hj⟩ := h₅
      subst hn
      refine append_at (hsz := by show ys.toArray.size ≤ sizeLine; rw [List.size_toArray, sizeLine_eq]; (clear ne hi; lia)) (N₄ _ (.tail _ (.tail _ (.head _)))).1 fun h₅ hs₅ hD₅ => ?_
      have zD := N₄ _ (.tail _ (.tail _ (.head _)))
      refine ⟨vs.length + 1 - (i + 1), by (clear hz ne hi hyl; omega), h₅, tk₄, i + 1, ys ++ [y], _, rfl, hlt, rfl, by rw [List.length_append, List.length_singleton]; (clear hz ne hi hlt; lia), ⟨oI, hs₅.extBut _ _ ne.2.1 (N₄ _ (.head _)).1, cI⟩, F₄.change hs₅ zD.2.1 zD.2.2, (hoC.ns (N₄ _ (.tail _ (.head _))).1).sameBut hs₅ ne.2.2, News.cons (fun p hp => ⟨hs₅.extBut _ _ (offm p hp).2.2 (N₄ p (.tail _ (.tail _ (.tail _ hp)))).1, (N₄ p (.tail _ (.tail _ (.tail _ hp)))).2⟩) (hD₅.trans (congrArg some (lst_snoc ys y))) zD.2.2 zD.2.1, hj⟩
    | false =>
      rw [if_neg (by decide)]
      obtain ⟨h₇, tk₄, news₄, rfl, F₄, N₄, -, -, hn, hj⟩ := whl_no h₄
      subst hn
      exact ⟨vs.length + 1 - (i + 1), by (clear hz ne hi hyl; omega), h₇, tk₄, i + 1, ys, _, rfl, hlt, rfl, by (clear hz ne hi hlt; lia), ⟨oI, (N₄ _ (.head _)).1, cI⟩, F₄, hoC.ns (N₄ _ (.tail _ (.head _))).1, fun p hp => N₄ p (.tail _ (.tail _ hp)), hj⟩
  · obtain rfl : i = vs.length := Nat.le_antisymm hi (Nat.not_lt.mp hlt)
    refine W.done _ _ _ (by simpa using ⟨hst, hl'⟩) fun h₂ tk₂ hk₂ => ?_
    exact fin h₂ tk₂ _ ys j (Mine.Fr.kept (h' := h₂) (D := [I]) F' (fun b ob hb e => hk₂ b ob hb e) (fun b hb => by rw [List.mem_singleton.mp hb]; exact zI.2) (fun hb => zI.1 (List.mem_singleton.mp hb).symm)) (n'.at' fun o e => hk₂ _ o (by simpa using Ne.symm ne.1) e) (News.kept (h' := h₂) (D := [I]) N' (fun b ob hb e => hk₂ b ob hb e) offN)
theorem ListComp_Q {ct elt iter : PySem.Expr} {x x₂ : Str} {px px₂ tp pos : Pos} {kk} {scope : Scope} {cl : List (Str × Addr)} {Q : Value → Shared → Prop} {news : List (Addr × Obj)} {l : Addr} {vs : List Value} {k : Nat} (J : Nat → List Value → Prop)
    (F : Fr h₀ L s.heap m) (N : News h₀ L s.heap news) (hm : (l, listOf vs.toArray k) ∈ news) (hz : vs.length < 1000000) (j0 : J 0 []) (hT : ∀ v ∈ vs, ∃ T a b, v = .ref T ∧ IsTup h₀ T #[a, b])
    (hclos : closureFor scope env = pure cl) (hcell : ∀ y ∈ scope.names, y.2 ≠ .cell) (hkind : scope.kind = .function)
    (hnames : ∀ y ∈ scope.names, y.2 = .local → scope.names.lookup y.1 = some .local) (hx : scope.names.lookup x = some .local) (hx₂ : scope.names.lookup x₂ = some .local) (hxx : x ≠ x₂)
    (he : wpAny (model prog w) A (eval iter env) (fun v s' => v = .ref l ∧ s' = s) E s)
    (step : ∀ g i T a b ys I oI C oC D m₂ h tk (E' : Value → Shared → Prop), vs[i]? = some (.ref T) → IsTup h₀ T #[a, b] → NsObj oC m₂ → m₂ x = some a → m₂ x₂ = some b → Fr h₀ L h m → News h₀ L h ((I, oI) :: (C, oC) :: (D, lst ys) :: news) → Off3 I C D news → ((@Ne Nat I C) ∧ (@Ne Nat I D) ∧ (@Ne Nat C D)) → J i ys →
      wpAny (model prog w) A (isTrue ct (compEnvC scope cl C env) (eval ct (compEnvC scope cl C env))) (fun ok s' => WhlIf ok
        (wpAny (model prog w) A (eval elt (compEnvC scope cl C env)) (CompEnd h₀ L m { s with heap := g, toks := tk } I oI C oC D (lst ys) (fun _ => True) (fun y nw' => nw' = news ∧ J (i + 1) (ys ++ [y]))) E' s')
        (CompEnd h₀ L m { s with heap := g, toks := tk } I oI C oC D (lst ys) (fun _ => True) (fun _ nw' => nw' = news ∧ J (i + 1) ys) Value.none s')) E' { s with heap := h, toks := tk })
    (fin : ∀ D h tk ys, J vs.length ys → Fr h₀ L h m → News h₀ L h ((D, lst ys) :: news) → Off1 D news → Q (.ref D) { s with heap := h, toks := tk })
    (hh : A.handled = none := by rfl) (hs : ∀ x, foldedSetIterable iter env x = pure x := by intro _; rfl) :
    wpAny (model prog w) A (eval (.ListComp elt [⟨.Tuple [.Name x px, .Name x₂ px₂] kk tp, iter, [ct], 0⟩] scope pos) env) Q E s := by
  rw [eval_ListComp]
  refine wpAny_comprehension_free (use := none) rfl hs hclos hkind hnames (wpAny_mono he (fun xv s₁ h₁ => ?_) fun _ _ e => e)
  obtain ⟨rfl, rfl⟩ := h₁
  have hl : s₁.heap.IsList l vs.toArray := ⟨_, (N _ hm).1, rfl, _, rfl⟩
  have hlt : l < s₁.heap.objs.size := Heap.lt_size (N _ hm).1
  refine wpAny_pyIter_list hl ?_
  have W := Walks.list (prog := prog) (w := w) (A := A) hh s₁.heap.objs.size l (Nat.ne_of_lt hlt) vs.toArray
  obtain ⟨F1, N1, l1⟩ := ks_newsPush (s := s₁) (o := { cls := .type "list_iterator", data := .fields #[.ref l, .int 0 0] }) F N rfl (Heap.get?_push_at rfl rfl) (fun b o e => Heap.get?_push_of_some _ e)
  obtain ⟨F2, N2, l2⟩ := ks_newsPush (s := { s₁ with heap := s₁.heap.push { cls := .type "list_iterator", data := .fields #[.ref l, .int 0 0] } }) (o := lst []) F1 N1 rfl (Heap.get?_push_at rfl rfl) (fun b o e => Heap.get?_push_of_some _ e)
  refine wpAny_newObj_type (wpAny_newFunctionEnv hcell (by intro y hy; simp at hy) (fun h₁ hns₁ hsb₁ => ?_) hkind)
  dsimp only at hns₁ hsb₁ l1 l2 F2 N2 ⊢
  have zI := N2 _ (.tail _ (.head _))
  have zD := N2 _ (.head _)
  have hst0 : (s₁.heap.push { cls := .type "list_iterator", data := .fields #[.ref l, .int 0 0] }).IsListIter s₁.heap.objs.size l 0 := ⟨_, Heap.get?_push_at rfl rfl, rfl, rfl⟩
  have off : Off3 s₁.heap.objs.size ((s₁.heap.push { cls := .type "list_iterator", data := .fields #[.ref l, .int 0 0] }).push (lst [])).objs.size (s₁.heap.push { cls := .type "list_iterator", data := .fields #[.ref l, .int 0 0] }).objs.size news :=
    Off3.of fun p hp => ⟨Nat.ne_of_lt (l1 p hp), Nat.ne_of_lt (Heap.lt_size (N2 _ (.tail _ (.tail _ hp))).1), Nat.ne_of_lt (l2 p (.tail _ hp))⟩
  have hID : @LT.lt Nat _ s₁.heap.objs.size (s₁.heap.push { cls := .type "list_iterator", data := .fields #[.ref l, .int 0 0] }).objs.size := l2 _ (.head _)
  have hDC : @LT.lt Nat _ (s₁.heap.push { cls := .type "list_iterator", data := .fields #[.ref l, .int 0 0] }).objs.size ((s₁.heap.push { cls := .type "list_iterator", data := .fields #[.ref l, .int 0 0] }).push (lst [])).objs.size := Heap.lt_size zD.1
  have hCL : @Ne Nat ((s₁.heap.push { cls := .type "list_iterator", data := .fields #[.ref l, .int 0 0] }).push (lst [])).objs.size L := Nat.ne_of_gt F2.ns.lt
  have hC₀ : h₀.get? ((s₁.heap.push { cls := .type "list_iterator", data := .fields #[.ref l, .int 0 0] }).push (lst [])).objs.size = none := by
    cases e : h₀.get? ((s₁.heap.push { cls := .type "list_iterator", data := .fields #[.ref l, .int 0 0] }).push (lst [])).objs.size with
    | none => rfl
    | some o => exact absurd (Heap.lt_size (F2.keep _ _ e)) (Nat.lt_irrefl _)
  have ext : ∀ b o, ((s₁.heap.push { cls := .type "list_iterator", data := .fields #[.ref l, .int 0 0] }).push (lst [])).get? b = some o → h₁.get? b = some o := fun b o e => hsb₁.extBut b o (Nat.ne_of_lt (Heap.lt_size e)) (Heap.get?_push_of_some _ e)
  have loop : ∀ tk, codeAny (model prog w) A (.compLoop (.ListComp elt [⟨.Tuple [.Name x px, .Name x₂ px₂] kk tp, iter, [ct], 0⟩] scope pos) 0 (.ref s₁.heap.objs.size) (.ref (s₁.heap.push { cls := .type "list_iterator", data := .fields #[.ref l, .int 0 0] }).objs.size) (compEnvC scope cl ((s₁.heap.push { cls := .type "list_iterator", data := .fields #[.ref l, .int 0 0] }).push (lst [])).objs.size env))
      (compPost (model prog w) A E none Q (.ref (s₁.heap.push { cls := .type "list_iterator", data := .fields #[.ref l, .int 0 0] }).objs.size) ((s₁.heap.push { cls := .type "list_iterator", data := .fields #[.ref l, .int 0 0] }).push (lst [])).objs.size) { s₁ with heap := h₁, toks := tk } := fun tk => by
    refine runQ (l := l) (vs := vs) (k := k) J hm hz hT hkind hx hx₂ hxx hh off ⟨Nat.ne_of_lt (Nat.lt_trans hID hDC), Nat.ne_of_lt hID, Nat.ne_of_gt hDC⟩ zI.2 ⟨hCL, hC₀⟩ (fun g i T a b ys oI oC m₂ h tk E' => fun a1 a2 a3 a4 a5 a6 a7 a8 => step g i T a b ys _ oI _ oC _ m₂ h tk E' a1 a2 a3 a4 a5 a6 a7 off ⟨Nat.ne_of_lt (Nat.lt_trans hID hDC), Nat.ne_of_lt hID, Nat.ne_of_gt hDC⟩ a8) (fun h tk m' ys j Fh nh Nh => ?_) (F2.keeps ext) (fun p hp => N2.grown ext p ?_) hns₁ ⟨_, ext _ _ zI.1, rfl, rfl⟩ j0
    · refine ⟨m', nh, fun h'' hs'' => fin _ h'' tk ys j (Fh.change hs'' hCL hC₀) (fun p hp => ⟨hs''.extBut _ _ ?_ (Nh p hp).1, (Nh p hp).2⟩) off.one⟩
      rcases List.mem_cons.mp hp with rfl | hp
      · exact Nat.ne_of_lt hDC
      · exact (off.mem _ hp).2.1
    · rcases List.mem_cons.mp hp with rfl | hp
      · exact .head _
      · exact .tail _ (.tail _ hp)
  refine codeAny_compStart_list (loop _) (W.self 0 _ _ _ ⟨⟨_, ext _ _ zI.1, rfl, rfl⟩, ⟨_, ext _ _ (N2 _ (.tail _ (.tail _ hm))).1, rfl, _, rfl⟩⟩ (loop _))
end
end Mine
namespace Mine
open PyProof.Rows.LCg PyProof.Rows.LCp
section
variable {prog : Program} {w : World} {A : Around} {h₀ : Heap} {L : Addr} {m : Str → Option Value} {env : Env} {elt : PySem.Expr} {x x₂ : Str} {scope : Scope} {cl : List (Str × Addr)} {s : Shared} {S : List (Addr × Obj) → Prop} {P : Nat → Value → Prop} {Fin : List Value → List (Addr × Obj) → Prop}
noncomputable def TurnP (prog : Program) (w : World) (A : Around) (h₀ : Heap) (L : Addr) (m : Str → Option Value) (env : Env) (elt : PySem.Expr) (x x₂ : Str) (scope : Scope) (cl : List (Str × Addr)) (s : Shared) (J : Nat → List Value → List (Addr × Obj) → Prop) (i : Nat) (v : Value) (ys : List Value) (nw : List (Addr × Obj)) : Prop :=
  ∃ (t : Addr) (ot : Obj) (v₁ v₂ : Value) (nt : Nat), v = .ref t ∧ (t, ot) ∈ nw ∧ ot.cls = .type "tuple" ∧ ot.data = .seq #[v₁, v₂] nt ∧
    ∀ I oI C oC D m₂ h tk (E' : Value → Shared → Prop), NsObj oC m₂ → m₂ x = some v₁ → m₂ x₂ = some v₂ → Fr h₀ L h m → News h₀ L h ((I, oI) :: (C, oC) :: (D, lst ys) :: nw) → Off3 I C D nw → ((@Ne Nat I C) ∧ (@Ne Nat I D) ∧ (@Ne Nat C D)) →
      wpAny (model prog w) A (eval elt (compEnvC scope cl C env)) (CompEnd h₀ L m { s with heap := h, toks := tk } I oI C oC D (lst ys) (fun _ => True) (fun y nw' => J (i + 1) (ys ++ [y]) nw')) E' { s with heap := h, toks := tk }
theorem rest_ofP {vs : List Value} (J : Nat → List Value → List (Addr × Obj) → Prop) (hJ : ∀ i ys nw, J i ys nw → S nw)
    (step : ∀ i v ys nw, vs[i]? = some v → J i ys nw → TurnP prog w A h₀ L m env elt x x₂ scope cl s J i v ys nw)
    (fin : ∀ ys nw, J vs.length ys nw → Fin ys nw) : ∀ k i ys nw, i + k = vs.length → J i ys nw → CompRestP prog w A h₀ L m env elt x x₂ scope cl s S (fun i v => vs.toArray[i]? = some v) Fin k i ys nw
  | 0, i, ys, nw, hk, j => by
    have e : i = vs.length := by omega
    subst e
    exact CompRestP.zero (fin _ _ j)
  | k + 1, i, ys, nw, hk, j => CompRestP.succ fun v hv => by
    obtain ⟨t, ot, v₁, v₂, nt, e1, e2, e3, e4, turn⟩ := step i v ys nw (by simpa using hv) j
    refine ⟨t, ot, v₁, v₂, nt, e1, e2, e3, e4, fun I oI C oC D m₂ h tk E' hC hx hx₂ F N off ne => ?_⟩
    refine wpAny_mono (turn I oI C oC D m₂ h tk E' hC hx hx₂ F N off ne) (fun y s' hy => ?_) fun _ _ z => z
    obtain ⟨h', tk', news', e1, F', N', o', -, hr⟩ := hy
    exact ⟨h', tk', news', e1, F', N', o', hJ _ _ _ hr, rest_ofP J hJ step fin k (i + 1) _ _ (by (clear ne; lia)) hr⟩
theorem srcP {l : Addr} {vs : List Value} {k : Nat} {news : List (Addr × Obj)} {Fin' : Shared → List Value → List (Addr × Obj) → Prop} (J : Nat → List Value → List (Addr × Obj) → Prop)
    (hh : A.handled = none) (F : Fr h₀ L s.heap m) (N : News h₀ L s.heap news) (h0 : J 0 [] news) (hz : vs.length < 1000000)
    (hsrc : ∀ i ys nw, J i ys nw → (l, listOf vs.toArray k) ∈ nw)
    (step : ∀ g i v ys nw, vs[i]? = some v → J i ys nw → TurnP prog w A h₀ L m env elt x x₂ scope cl { s with heap := g } J i v ys nw)
    (fin : ∀ g ys nw, J vs.length ys nw → Fin' { s with heap := g } ys nw) :
    SrcLP prog w A h₀ L m env elt x x₂ scope cl Fin' (.ref l) s :=
  SrcLP.ledger (k := k) hh F N (hsrc _ _ _ h0) (by rw [List.size_toArray, sizeLine_eq]; lia) fun g => rest_ofP J (fun i ys nw j => .inr ⟨_, hsrc _ _ _ j, rfl, _, rfl⟩) (step g) (fin g) _ _ _ _ (by simp) h0
end
end Mine
namespace Mine
noncomputable abbrev GL : List Str := [Str.ofString "_wall", Str.ofString "NL", Str.ofString "EMPTYSTRING", Str.ofString "_ValueFormatter", Str.ofString "_Accumulator", Str.ofString "heappush", Str.ofString "heappop", Str.ofString "_siftdown", Str.ofString "_siftup", Str.ofString "_plain_name", Str.ofString "ABCMeta", Str.ofString "_ABCLike", Str.ofString "_abc_plain_meta", Str.ofString "fspath", Str.ofString "_check_arg_types", Str.ofString "_get_sep", Str.ofString "join", Str.ofString "split", Str.ofString "splitroot", Str.ofString "normpath", Str.ofString "_law_raw", Str.ofString "_law_names", Str.ofString "_law_told", Str.ofString "_law_due", Str.ofString "_law_texts", Str.ofString "_law_written", Str.ofString "_law_twin", Str.ofString "law"]
noncomputable abbrev accObj (d : Addr) (vs : List Value) (n : Nat) : Obj := { cls := .ref 178, dict := some d, data := .seq vs.toArray n }
theorem accInst {g h : Heap} {L c d : Addr} {vs : List Value} {n : Nat} {od : Obj} {news : List (Addr × Obj)} (N : News g L h news) (h1 : (c, accObj d vs n) ∈ news) (h2 : (d, od) ∈ news) : InstAt h c (accObj d vs n) 178 (some od) :=
  ⟨(N _ h1).1, rfl, rfl, (N _ h2).1⟩
noncomputable abbrev posLen : Pos := ⟨93, 19, 93, 63⟩
noncomputable abbrev posStr : Pos := ⟨96, 32, 96, 90⟩
set_option genInjectivity false
set_option genSizeOf false
structure FK where
  (h1 h2 h3 h4 h5 h6 : Int)
  (t1 t2 t3 t4 t5 t6 : Tok)
  (mx : Int) (mt : Tok) (cw : Str) (cwt : Tok) (cl : Int) (clt : Tok) (sp : Str) (spt : Tok) (ln cu : Addr)
noncomputable abbrev fmtE (q : FK) : List DictEntry := [⟨q.h1, .str (Str.ofString "_maxlen") q.t1, .int q.mx q.mt⟩, ⟨q.h2, .str (Str.ofString "_continuation_ws") q.t2, .str q.cw q.cwt⟩, ⟨q.h3, .str (Str.ofString "_continuation_ws_len") q.t3, .int q.cl q.clt⟩,
  ⟨q.h4, .str (Str.ofString "_splitchars") q.t4, .str q.sp q.spt⟩, ⟨q.h5, .str (Str.ofString "_lines") q.t5, .ref q.ln⟩, ⟨q.h6, .str (Str.ofString "_current_line") q.t6, .ref q.cu⟩]
theorem keep_none {D : List Addr} {h g : Heap} {a : Addr} (KP : Keep D h g) (hn : g.get? a = none) (ha : a ∉ D) : h.get? a = none := by
  cases e : h.get? a with
  | none => rfl
  | some o => have := KP a o ha e; rw [hn] at this; cases this
noncomputable abbrev iniE (h : Int) (tk : Tok) (n : Int) (tn : Tok) : List DictEntry := [⟨h, .str (Str.ofString "_initial_size") tk, .int n tn⟩]
structure FAt (h : Heap) (f fd dC : Addr) (q : FK) (ls : List Value) (nl : Nat) (vs : List Value) (k : Nat) (hh : Int) (tk0 : Tok) (n : Int) (tn : Tok) (ps qs : Array Value) : Prop where
  af : h.get? f = some (instObj 94 fd)
  afd : h.get? fd = some (dictOf (fmtE q) 6)
  aln : h.get? q.ln = some (listOf ls.toArray nl)
  acu : h.get? q.cu = some (accObj dC vs k)
  adc : h.get? dC = some (dictOf (iniE hh tk0 n tn) 1)
  ap : h.get? 140 = some (tabObj ps)
  aq : h.get? 147 = some (tabObj qs)
  atp : TabOk posLen ps
  atq : TabOk posStr qs
structure FOff (base : Heap) (f fd dC : Addr) (q : FK) : Prop where
  bf : base.get? f = none
  bfd : base.get? fd = none
  bln : base.get? q.ln = none
  bcu : base.get? q.cu = none
  bdc : base.get? dC = none
  bp : base.get? 140 = none
  bq : base.get? 147 = none
  o1 : @LT.lt Nat _ 300 fd
  o2 : @LT.lt Nat _ fd f
  o3 : @LT.lt Nat _ f q.ln
  o4 : @LT.lt Nat _ q.ln dC
  o5 : @LT.lt Nat _ dC q.cu
set_option genInjectivity true
set_option genSizeOf true
noncomputable abbrev fD (f fd dC : Addr) (q : FK) (ls : List Value) (nl : Nat) (vs : List Value) (k : Nat) (hh : Int) (tk0 : Tok) (n : Int) (tn : Tok) (ps qs : Array Value) : List (Addr × Obj) :=
  [(f, instObj 94 fd), (fd, dictOf (fmtE q) 6), (q.ln, listOf ls.toArray nl), (q.cu, accObj dC vs k), (dC, dictOf (iniE hh tk0 n tn) 1), (140, tabObj ps), (147, tabObj qs)]
theorem FAt.all {h base : Heap} {f fd dC : Addr} {q : FK} {ls : List Value} {nl : Nat} {vs : List Value} {k : Nat} {hh : Int} {tk0 : Tok} {n : Int} {tn : Tok} {ps qs : Array Value} (a : FAt h f fd dC q ls nl vs k hh tk0 n tn ps qs) (o : FOff base f fd dC q) :
    ∀ r ∈ fD f fd dC q ls nl vs k hh tk0 n tn ps qs, h.get? r.1 = some r.2 ∧ base.get? r.1 = none := fun r hr => by
  simp only [fD, List.mem_cons, List.not_mem_nil, or_false] at hr
  rcases hr with rfl | rfl | rfl | rfl | rfl | rfl | rfl
  · exact ⟨a.af, o.bf⟩
  · exact ⟨a.afd, o.bfd⟩
  · exact ⟨a.aln, o.bln⟩
  · exact ⟨a.acu, o.bcu⟩
  · exact ⟨a.adc, o.bdc⟩
  · exact ⟨a.ap, o.bp⟩
  · exact ⟨a.aq, o.bq⟩

set_option hygiene false
local macro_rules | `(tactic| omega) => `(tactic| first | exact rm hdp rfl | exact rm hu rfl | exact rm0 hdp rfl | exact rm0 hu rfl | with_reducible exact Nat.ne_of_gt (by assumption) | with_reducible exact Nat.ne_of_lt (by assumption) | with_reducible exact Int.natCast_nonneg _)
local macro_rules | `(tactic| k_inst) => `(tactic| exact accInst (by k_asm) (by k_mem) (by k_mem))
local macro_rules | `(tactic| walk_at "getMethod ref") => `(tactic| (k_here; k_dflt (refine' method_fnL (by k_in) (by k_inst) (by k_is) (by k_is) (by k_is) (by k_is) (by exact rfl) ?_)))
set_option hygiene true
section
variable {h h' g base : Heap} {L f fd dC : Addr} {q : FK} {ls ls' : List Value} {nl nl' : Nat} {vs vs' : List Value} {k k' : Nat} {hh hh' : Int} {tk0 tk0' : Tok} {n n' : Int} {tn tn' : Tok} {ps qs ps' qs' : Array Value}
theorem FAt.of {news : List (Addr × Obj)} (N : News g L h news) (s : ∀ p ∈ fD f fd dC q ls nl vs k hh tk0 n tn ps qs, p ∈ news) (tp : TabOk posLen ps) (tq : TabOk posStr qs) : FAt h f fd dC q ls nl vs k hh tk0 n tn ps qs :=
  ⟨(N _ (s _ (.head _))).1, (N _ (s _ (.tail _ (.head _)))).1, (N _ (s _ (.tail _ (.tail _ (.head _))))).1, (N _ (s _ (.tail _ (.tail _ (.tail _ (.head _)))))).1, (N _ (s _ (.tail _ (.tail _ (.tail _ (.tail _ (.head _))))))).1,
    (N _ (s _ (.tail _ (.tail _ (.tail _ (.tail _ (.tail _ (.head _)))))))).1, (N _ (s _ (.tail _ (.tail _ (.tail _ (.tail _ (.tail _ (.tail _ (.head _))))))))).1, tp, tq⟩
theorem FAt.news {news : List (Addr × Obj)} (a : FAt h' f fd dC q ls' nl' vs' k' hh' tk0' n' tn' ps' qs') (N : News g L h news) (s : ∀ p ∈ fD f fd dC q ls nl vs k hh tk0 n tn ps qs, p ∈ news) : News g L h' (fD f fd dC q ls' nl' vs' k' hh' tk0' n' tn' ps' qs') := fun p hp => by
  simp only [fD, List.mem_cons, List.not_mem_nil, or_false] at hp
  rcases hp with rfl | rfl | rfl | rfl | rfl | rfl | rfl
  · exact ⟨a.af, (N _ (s _ (.head _))).2⟩
  · exact ⟨a.afd, (N _ (s _ (.tail _ (.head _)))).2⟩
  · exact ⟨a.aln, (N _ (s _ (.tail _ (.tail _ (.head _))))).2⟩
  · exact ⟨a.acu, (N _ (s _ (.tail _ (.tail _ (.tail _ (.head _)))))).2⟩
  · exact ⟨a.adc, (N _ (s _ (.tail _ (.tail _ (.tail _ (.tail _ (.head _))))))).2⟩
  · exact ⟨a.ap, (N _ (s _ (.tail _ (.tail _ (.tail _ (.tail _ (.tail _ (.head _)))))))).2⟩
  · exact ⟨a.aq, (N _ (s _ (.tail _ (.tail _ (.tail _ (.tail _ (.tail _ (.tail _ (.head _))))))))).2⟩
theorem FAt.up {D : List Addr} (a : FAt h f fd dC q ls nl vs k hh tk0 n tn ps qs) (x : Keep D h h') (hf : f ∉ D) (hfd : fd ∉ D) (e1 : h'.get? q.ln = some (listOf ls'.toArray nl')) (e2 : h'.get? q.cu = some (accObj dC vs' k')) (e3 : h'.get? dC = some (dictOf (iniE hh' tk0' n' tn') 1))
    (e4 : h'.get? 140 = some (tabObj ps')) (e5 : h'.get? 147 = some (tabObj qs')) (tp : TabOk posLen ps') (tq : TabOk posStr qs') : FAt h' f fd dC q ls' nl' vs' k' hh' tk0' n' tn' ps' qs' :=
  ⟨x _ _ hf a.af, x _ _ hfd a.afd, e1, e2, e3, e4, e5, tp, tq⟩
theorem FAt.cu' (a : FAt h f fd dC q ls nl vs k hh tk0 n tn ps qs) (o : FOff base f fd dC q) (x : Keep [q.cu] h h') (e : h'.get? q.cu = some (accObj dC vs' k')) : FAt h' f fd dC q ls nl vs' k' hh tk0 n tn ps qs := by
  obtain ⟨p1, p2, p3, p4, p5⟩ := (⟨o.o1, o.o2, o.o3, o.o4, o.o5⟩ : _ ∧ _ ∧ _ ∧ _ ∧ _)
  exact a.up x (off1 (by (clear p1 p2; lia))) (off1 (by (clear p1; lia))) (x _ _ (off1 (by (clear p1 p2 p3; lia))) a.aln) e (x _ _ (off1 (by (clear p1 p2 p3 p4; lia))) a.adc) (x _ _ (off1 (by lia)) a.ap) (x _ _ (off1 (by lia)) a.aq) a.atp a.atq
theorem FAt.p' (a : FAt h f fd dC q ls nl vs k hh tk0 n tn ps qs) (o : FOff base f fd dC q) (x : Keep [140] h h') (e : h'.get? 140 = some (tabObj ps')) (t : TabOk posLen ps') : FAt h' f fd dC q ls nl vs k hh tk0 n tn ps' qs := by
  obtain ⟨p1, p2, p3, p4, p5⟩ := (⟨o.o1, o.o2, o.o3, o.o4, o.o5⟩ : _ ∧ _ ∧ _ ∧ _ ∧ _)
  exact a.up x (off1 (by (clear p3 p4 p5; lia))) (off1 (by (clear p2 p3 p4 p5; lia))) (x _ _ (off1 (by (clear p4 p5; lia))) a.aln) (x _ _ (off1 (by lia)) a.acu) (x _ _ (off1 (by (clear p5; lia))) a.adc) e (x _ _ (off1 (by (clear p1 p2 p3 p4 p5; lia))) a.aq) t a.atq
theorem FAt.q' (a : FAt h f fd dC q ls nl vs k hh tk0 n tn ps qs) (o : FOff base f fd dC q) (x : Keep [147] h h') (e : h'.get? 147 = some (tabObj qs')) (t : TabOk posStr qs') : FAt h' f fd dC q ls nl vs k hh tk0 n tn ps qs' := by
  obtain ⟨p1, p2, p3, p4, p5⟩ := (⟨o.o1, o.o2, o.o3, o.o4, o.o5⟩ : _ ∧ _ ∧ _ ∧ _ ∧ _)
  exact a.up x (off1 (by (clear p3 p4 p5; lia))) (off1 (by (clear p2 p3 p4 p5; lia))) (x _ _ (off1 (by (clear p4 p5; lia))) a.aln) (x _ _ (off1 (by lia)) a.acu) (x _ _ (off1 (by (clear p5; lia))) a.adc) (x _ _ (off1 (by (clear p1 p2 p3 p4 p5; lia))) a.ap) e a.atp t
theorem FAt.pq' (a : FAt h f fd dC q ls nl vs k hh tk0 n tn ps qs) (o : FOff base f fd dC q) (x : Keep [140, 147] h h') (e : h'.get? 140 = some (tabObj ps')) (t : TabOk posLen ps') (e' : h'.get? 147 = some (tabObj qs')) (t' : TabOk posStr qs') : FAt h' f fd dC q ls nl vs k hh tk0 n tn ps' qs' := by
  obtain ⟨p1, p2, p3, p4, p5⟩ := (⟨o.o1, o.o2, o.o3, o.o4, o.o5⟩ : _ ∧ _ ∧ _ ∧ _ ∧ _)
  exact a.up x (off2 (by (clear p3 p4 p5; omega)) (by (clear p3 p4 p5; omega))) (off2 (by (clear p2 p3 p4 p5; omega)) (by (clear p2 p3 p4 p5; omega))) (x _ _ (off2 (by (clear p4 p5; omega)) (by (clear p4 p5; omega))) a.aln) (x _ _ (off2 (by omega) (by omega)) a.acu) (x _ _ (off2 (by (clear p5; omega)) (by (clear p5; omega))) a.adc) e e' t t'
theorem FAt.cd' (a : FAt h f fd dC q ls nl vs k hh tk0 n tn ps qs) (o : FOff base f fd dC q) (x : Keep [q.cu, dC] h h') (e : h'.get? q.cu = some (accObj dC vs' k')) (e' : h'.get? dC = some (dictOf (iniE hh' tk0' n' tn') 1)) : FAt h' f fd dC q ls nl vs' k' hh' tk0' n' tn' ps qs := by
  obtain ⟨p1, p2, p3, p4, p5⟩ := (⟨o.o1, o.o2, o.o3, o.o4, o.o5⟩ : _ ∧ _ ∧ _ ∧ _ ∧ _)
  exact a.up x (off2 (by (clear p1 p2; omega)) (by (clear p1 p2 p5; lia))) (off2 (by (clear p1; omega)) (by (clear p1 p5; lia))) (x _ _ (off2 (by (clear p1 p2 p3; omega)) (by (clear p1 p2 p3 p5; lia))) a.aln) e e' (x _ _ (off2 (by omega) (by (clear p5; lia))) a.ap) (x _ _ (off2 (by omega) (by (clear p5; lia))) a.aq) a.atp a.atq
theorem fr_kept {m : Str → Option Value} {D : List Addr} {news : List (Addr × Obj)} (F : Fr g L h m) (N : News g L h news) (x : Keep D h h') (s : ∀ b ∈ D, ∃ o, (b, o) ∈ news) : Fr g L h' m :=
  Mine.Fr.kept F x (fun b hb => let ⟨o, ho⟩ := s b hb; (N _ ho).2.2) fun hb => let ⟨_, ho⟩ := s L hb; (N _ ho).2.1 rfl
theorem tup_kept {v : Value} {d : List Pv} {D : List Addr} {news : List (Addr × Obj)} (z : TupAt h v d) (x : Keep D h h') (N : News g L h news) (s : ∀ b ∈ D, ∃ o, (b, o) ∈ news ∧ o.cls ≠ .type "tuple") : TupAt h' v d :=
  z.kept x fun b hb o ho => let ⟨o', ho', hc⟩ := s b hb; by rw [(N _ ho').1] at ho; cases ho; exact hc
end
section
variable {M : Model} {A : Around} {E : Value → Shared → Prop} {Q : Flow → Shared → Prop} {s : Shared} {st : Stmt} {rest : List Stmt} {env : Env}
theorem join_cons (J : Shared → Prop) (h1 : wpAny M A (exec st env) (fun fl s' => fl = .next ∧ J s') E s) (h2 : ∀ s', J s' → wpAny M A (execs rest env) Q E s') : wpAny M A (execs (st :: rest) env) Q E s := by
  rw [execs_cons]
  refine wpAny_bind (wpAny_mono h1 (fun fl s' h => ?_) fun _ _ z => z)
  obtain ⟨rfl, hj⟩ := h
  exact h2 s' hj
end
inductive NJ (g : Heap) (L : Addr) (m : Str → Option Value) (s : Shared) (f fd dC : Addr) (q : FK) (ls : List Value) (nl : Nat) (hh : Int) (tk0 : Tok) (n : Int) (tn : Tok) (ps qs : Array Value) (cs' : List (Str × Str)) : Shared → Prop
  | mk {h' : Heap} {tk' : Nat} {vs' : List Value} {k' : Nat} : Fr g L h' m → News g L h' (fD f fd dC q ls nl vs' k' hh tk0 n tn ps qs) → AllAt (TupAt h') vs' (cs'.map ckd) → NJ g L m s f fd dC q ls nl hh tk0 n tn ps qs cs' { s with heap := h', toks := tk' }
inductive StrsAre : List Value → List Str → Prop
  | nil : StrsAre [] []
  | cons {x : Str} {t : Tok} {vs : List Value} {xs : List Str} : StrsAre vs xs → StrsAre (.str x t :: vs) (x :: xs)
theorem StrsAre.snoc {vs : List Value} {xs : List Str} (h : StrsAre vs xs) (x : Str) (t : Tok) : StrsAre (vs ++ [.str x t]) (xs ++ [x]) := by
  induction h with
  | nil => exact .cons .nil
  | cons _ ih => exact .cons ih
theorem StrsAre.length {vs : List Value} {xs : List Str} (h : StrsAre vs xs) : vs.length = xs.length := by
  induction h with
  | nil => rfl
  | cons _ ih => simp [ih]
noncomputable def nlc (cs : List (Str × Str)) : List (Str × Str) := match cs.getLast? with
  | none => [(Str.ofString "", Str.ofString "")]
  | some e => if e = (Str.ofString " ", Str.ofString "") then cs.dropLast else cs
theorem nlc_snoc (cs : List (Str × Str)) (e : Str × Str) : nlc (cs ++ [e]) = if e = (Str.ofString " ", Str.ofString "") then cs else cs ++ [e] := by
  simp [nlc]
inductive NJ2 (g : Heap) (L : Addr) (m : Str → Option Value) (s : Shared) (f fd dC : Addr) (q : FK) (hh : Int) (tk0 : Tok) (n : Int) (tn : Tok) (LS : List Str) (B : Nat) : Shared → Prop
  | mk {h' : Heap} {g' : Array GenState} {tk' : Nat} {ls' : List Value} {nl' : Nat} {vs' : List Value} {k' : Nat} {ps' qs' : Array Value} : Fr g L h' m → News g L h' (fD f fd dC q ls' nl' vs' k' hh tk0 n tn ps' qs') → TabOk posLen ps' → TabOk posStr qs' → AllBare g' → StrsAre ls' LS → vs'.length ≤ B →
      NJ2 g L m s f fd dC q hh tk0 n tn LS B { s with heap := h', gens := g', toks := tk' }
theorem StrsAre.values {vs : List Value} {xs : List Str} (h : StrsAre vs xs) : ∃ l : List (Str × Tok), vs = strValues l ∧ l.map (·.1) = xs := by
  induction h with
  | nil => exact ⟨[], rfl, rfl⟩
  | @cons x t _ _ _ ih =>
    obtain ⟨l, e1, e2⟩ := ih
    exact ⟨(x, t) :: l, by rw [e1]; rfl, by rw [← e2]; rfl⟩

theorem strValues_at {l : List (Str × Tok)} {i : Nat} {v : Value} (h : (strValues l)[i]? = some v) : ∃ c tc, v = .str c tc ∧ (l.map (·.1))[i]? = some c := by
  have h' : (l.map fun p => Value.str p.1 p.2)[i]? = some v := h
  rw [List.getElem?_map] at h'
  cases e : l[i]? with
  | none => rw [e] at h'; cases h'
  | some p =>
    rw [e] at h'
    refine ⟨p.1, p.2, (Option.some.inj h').symm, ?_⟩
    rw [List.getElem?_map, e]; rfl
theorem str_empty' {x : Str} (h : x.length = 0) : x = Str.ofString "" := by
  obtain ⟨a⟩ := x
  have : a = #[] := Array.eq_empty_of_size_eq_zero h
  subst this; rfl
theorem str_nonempty' {x : Str} (h : x.length ≠ 0) : x ≠ Str.ofString "" := fun e => h (by subst e; rfl)
theorem StrsAre.unsnoc {y : Value} : ∀ {vs : List Value} {xs : List Str}, StrsAre (vs ++ [y]) xs → ∃ xs' z tz, xs = xs' ++ [z] ∧ y = .str z tz ∧ StrsAre vs xs'
  | [], xs, h => by
    have h' : StrsAre [y] xs := h
    clear h
    cases h' with
    | @cons z tz _ _ hh => cases hh; exact ⟨[], z, tz, rfl, rfl, .nil⟩
  | v :: vs, xs, h => by
    have h' : StrsAre (v :: (vs ++ [y])) xs := h
    clear h
    cases h' with
    | @cons z tz _ _ hh =>
      obtain ⟨xs', z', tz', e, e2, h2⟩ := StrsAre.unsnoc hh
      exact ⟨z :: xs', z', tz', by rw [e]; rfl, e2, .cons h2⟩
theorem take_succ_at {α : Type} {l : List α} {i : Nat} {c : α} (h : l[i]? = some c) : l.take (i + 1) = l.take i ++ [c] := by
  rw [List.take_add_one, h]; rfl
theorem dd_ne : Str.ofString ".." ≠ Str.ofString "" ∧ Str.ofString ".." ≠ Str.ofString "." := by decide +kernel
noncomputable def joinP (x y : Str) : Str := if x.length = 0 then y else if Txt.endswith x (Str.ofString "/") then x ++ y else x ++ (Str.ofString "/" ++ y)
noncomputable def splitT (x : Str) : Str := Txt.slice x (some (Txt.rfind x (Str.ofString "/") + 1)) none
theorem StrsAre.at' {i : Nat} {v : Value} : ∀ {vs : List Value} {xs : List Str}, StrsAre vs xs → vs[i]? = some v → ∃ c tc, v = .str c tc ∧ xs[i]? = some c := by
  intro vs xs h
  induction h generalizing i with
  | nil => intro e; simp at e
  | @cons x t vs xs h ih =>
    intro e
    cases i with
    | zero => simp at e; exact ⟨x, t, e.symm, rfl⟩
    | succ i =>
      obtain ⟨c, tc, e1, e2⟩ := ih (i := i) (by simpa using e)
      exact ⟨c, tc, e1, by simpa using e2⟩
theorem StrsAre.append {vs ws : List Value} {xs ys : List Str} (h : StrsAre vs xs) (k : StrsAre ws ys) : StrsAre (vs ++ ws) (xs ++ ys) := by
  induction h with
  | nil => exact k
  | cons _ ih => exact .cons ih
section
variable {w : World} {mg mb : Str → Option Value} {mean : ExcName → Option Value} {dp un : Nat} {gd : Option (List Code)} {fr : List Env} {base : Heap} {s : Shared} {Q E : Value → Shared → Prop}
theorem fspath_spec
  {x : Str} {t : Tok}
  (X : (Mine.heapK w.params).In base) (T : Top topProg GL mean mg mb base) (hS : base.StaysIn s.heap)
  (hdp : dp < 900) (hu : un < 1000)
  (ret : ∀ h' tk', Keep [] s.heap h' → Q (.str x t) { s with heap := h', toks := tk' }) :
  wpAny (model PySem.Challenge.rw_ik0220_02.row.prog w) (amb dp un gd fr) (call (.ref 283) [.str x t]) Q E s := by
  revert X; k_fill; intro X
  refine wpAny_call ?_
  k_dflt (refine' enterF [(Str.ofString "path", .str x t)] [] ?kX ?kT hS ?kD ?kho ?khcd ?kroom ?kb ?kl ?kr ?_ ?c1 ?c2 ?c3 ?c4; (
  (case kX => assumption); (case kT => assumption); (case kho => k_is); (case khcd => k_is); (case kb => first | exact BindsTo.of_eq rfl | exact binds_K (by k_in) rfl (by k_is) rfl rfl rfl);
  (case kl => exact locs rfl); (case kr => exact rfl); (case c1 => exact rfl); (case c2 => exact rfl); (case c3 => exact rfl); (case c4 => first | decide | exact fun _ => rfl); (case kroom => first | exact rm0 hdp rfl | (simp only [recursionLimit]; omega))); (case kD => exact fun _ hq => no_mem hq))
  intro g L h1 fr' tk F N X1 T1 KP LTs
  refine (let aA := _; let eN := _; let qk := _; let ek := _; (?_ : wpAny _ aA (execs _ eN) qk ek _))
  (repeat' (first | (fail_if_success with_reducible refine Nf.go (by constructor) ?_); (fail_if_success fail_if_success with_reducible refine Fd.go (by constructor) ?_; k_fold); refine (let qk := _; let ek := _; (?_ : wpAny _ _ _ qk ek _)) | (fail_if_success fail_if_success k_unfold); (first | with_reducible refine (?_ : wpAny _ _ _ _ _ _) | k_unfold); (try dsimp only); try clear qk ek | (fail_if_success with_reducible refine Stop.go (by constructor) ?_); first | walk1 | dsimp only; walk1))
  rename_i P h2 F2 N2 _
  refine issub_call (n := 0) (N2 _ (.head _)).1 ?_
  (repeat' (first | (fail_if_success with_reducible refine Nf.go (by constructor) ?_); (fail_if_success fail_if_success with_reducible refine Fd.go (by constructor) ?_; k_fold); refine (let qk := _; let ek := _; (?_ : wpAny _ _ _ qk ek _)) | (fail_if_success fail_if_success k_unfold); (first | with_reducible refine (?_ : wpAny _ _ _ _ _ _) | k_unfold); (try dsimp only); try clear qk ek | (fail_if_success with_reducible refine Stop.go (by constructor) ?_); first | walk1 | dsimp only; walk1))
  exact ret _ _ fun b o hb e => F2.keep b o (KP b o hb e)
theorem sep_spec
  {x : Str} {t : Tok}
  (X : (Mine.heapK w.params).In base) (T : Top topProg GL mean mg mb base) (hS : base.StaysIn s.heap)
  (hdp : dp < 900) (hu : un < 1000)
  (ret : ∀ h' tk' t', Keep [] s.heap h' → Q (.str (Str.ofString "/") t') { s with heap := h', toks := tk' }) :
  wpAny (model PySem.Challenge.rw_ik0220_02.row.prog w) (amb dp un gd fr) (call (.ref 297) [.str x t]) Q E s := by
  revert X; k_fill; intro X
  refine wpAny_call ?_
  k_dflt (refine' enterF [(Str.ofString "path", .str x t)] [] ?kX ?kT hS ?kD ?kho ?khcd ?kroom ?kb ?kl ?kr ?_ ?c1 ?c2 ?c3 ?c4; (
  (case kX => assumption); (case kT => assumption); (case kho => k_is); (case khcd => k_is); (case kb => first | exact BindsTo.of_eq rfl | exact binds_K (by k_in) rfl (by k_is) rfl rfl rfl);
  (case kl => exact locs rfl); (case kr => exact rfl); (case c1 => exact rfl); (case c2 => exact rfl); (case c3 => exact rfl); (case c4 => first | decide | exact fun _ => rfl); (case kroom => first | exact rm0 hdp rfl | (simp only [recursionLimit]; omega))); (case kD => exact fun _ hq => no_mem hq))
  intro g L h1 fr' tk F N X1 T1 KP LTs
  refine (let aA := _; let eN := _; let qk := _; let ek := _; (?_ : wpAny _ aA (execs _ eN) qk ek _))
  (repeat' (first | (fail_if_success with_reducible refine Nf.go (by constructor) ?_); (fail_if_success fail_if_success with_reducible refine Fd.go (by constructor) ?_; k_fold); refine (let qk := _; let ek := _; (?_ : wpAny _ _ _ qk ek _)) | (fail_if_success fail_if_success k_unfold); (first | with_reducible refine (?_ : wpAny _ _ _ _ _ _) | k_unfold); (try dsimp only); try clear qk ek | (fail_if_success with_reducible refine Stop.go (by constructor) ?_); first | walk1 | dsimp only; walk1))
  exact ret _ _ _ fun b o hb e => F.keep b o (KP b o hb e)
end
section
variable {w : World} {mg mb : Str → Option Value} {mean : ExcName → Option Value} {dp un : Nat} {gd : Option (List Code)} {fr : List Env} {base : Heap} {s : Shared} {Q E : Value → Shared → Prop}
theorem par_eq {k : Nat} (h : 0 < k) : Int.fdiv ((k : Int) - 1) (2 ^ Int.toNat 1) = ((Par k : Nat) : Int) := by
  have e : (2 : Int) ^ Int.toNat 1 = 2 := rfl
  rw [e, Int.fdiv_eq_ediv_of_nonneg _ (by (clear h e; lia))]
  unfold Par
  (clear e; lia)
theorem siftdown_spec
  {a : Addr} {vs : List Value} {ds : List DD} {n : Nat} {pos : Nat} {x : DD} {sh : List Bool} {ti t0 : Tok}
  (X : (Mine.heapK w.params).In base) (T : Top topProg GL mean mg mb base) (hS : base.StaysIn s.heap)
  (ha : s.heap.get? a = some (listOf vs.toArray n)) (hb : base.get? a = none)
  (hA : AllAt (TupAt s.heap) vs ds) (hsh : ∀ d ∈ ds, d.map Pv.isI = sh) (hpos : pos < ds.length) (hx : nth ds pos = x) (inv : DInv lexLt ds pos x) (hsz : ds.length ≤ 1000000)
  (hdp : dp < 900) (hu : un < 1000)
  (ret : ∀ vs' ds' h' tk', Keep [a] s.heap h' → h'.get? a = some (listOf vs'.toArray n) → AllAt (TupAt h') vs' ds' → HeapOk lexLt ds' → ds'.Perm ds → Q .none { s with heap := h', toks := tk' }) :
  wpAny (model PySem.Challenge.rw_ik0220_02.row.prog w) (amb dp un gd fr) (call (.ref 203) [.ref a, .int 0 t0, .int (pos : Int) ti]) Q E s := by
  revert X; k_fill; intro X
  refine wpAny_call ?_
  k_dflt (refine' enterF [(Str.ofString "pos", .int (pos : Int) ti), (Str.ofString "startpos", .int 0 t0), (Str.ofString "heap", .ref a)] [(a, listOf vs.toArray n)] ?kX ?kT hS ?kD ?kho ?khcd ?kroom ?kb ?kl ?kr ?_ ?c1 ?c2 ?c3 ?c4; (
  (case kX => assumption); (case kT => assumption); (case kho => k_is); (case khcd => k_is); (case kb => first | exact BindsTo.of_eq rfl | exact binds_K (by k_in) rfl (by k_is) rfl rfl rfl);
  (case kl => exact locs rfl); (case kr => exact rfl); (case c1 => exact rfl); (case c2 => exact rfl); (case c3 => exact rfl); (case c4 => first | decide | exact fun _ => rfl); (case kroom => first | exact rm0 hdp rfl | (simp only [recursionLimit]; omega))); (case kD => intro q hq; rcases List.mem_singleton.mp hq with rfl; exact ⟨ha, hb⟩))
  intro g L h1 fr' tk F N X1 T1 KP LT
  refine (let aA := _; let eN := _; let qk := _; let ek := _; (?_ : wpAny _ aA (execs _ eN) qk ek _))
  have hAg : AllAt (TupAt g) vs ds := hA.mono fun v d z => z.kept KP fun b hb o ho => by
    simp at hb; subst hb; rw [ha] at ho; cases ho; simp
  (repeat' (first | (fail_if_success with_reducible refine Nf.go (by constructor) ?_); (fail_if_success fail_if_success with_reducible refine Fd.go (by constructor) ?_; k_fold); refine (let qk := _; let ek := _; (?_ : wpAny _ _ _ qk ek _)) | (fail_if_success fail_if_success k_unfold); (first | with_reducible refine (?_ : wpAny _ _ _ _ _ _) | k_unfold); (try dsimp only); try clear qk ek | (fail_if_success with_reducible refine Stop.go (by constructor) ?_); first | walk1 | dsimp only; walk1))
  obtain ⟨v, hv, tv⟩ := hAg.get hpos
  refine sub_list (N _ (List.mem_cons_self ..)).1 (by (clear hsz hdp hu; omega)) (by (clear hdp hu; lia)) (by simpa using hv) ?_
  (repeat' (first | (fail_if_success with_reducible refine Nf.go (by constructor) ?_); (fail_if_success fail_if_success with_reducible refine Fd.go (by constructor) ?_; k_fold); refine (let qk := _; let ek := _; (?_ : wpAny _ _ _ qk ek _)) | (fail_if_success fail_if_success k_unfold); (first | with_reducible refine (?_ : wpAny _ _ _ _ _ _) | k_unfold); (try dsimp only); try clear qk ek | (fail_if_success with_reducible refine Stop.go (by constructor) ?_); first | walk1 | dsimp only; walk1))
  rename Heap => h2; rename Fr _ _ _ _ => F2; rename News _ _ _ _ => N2
  have hvx : x = ds[pos] := by rw [← hx]; simp [nth, List.getD_eq_getElem?_getD, hpos]
  rw [← hvx] at tv
  have hshx : x.map Pv.isI = sh := hvx ▸ hsh _ (List.getElem_mem _)
  have F3 := toKF [(Str.ofString "heap", .ref a), (Str.ofString "startpos", .int 0 t0), (Str.ofString "newitem", v), (Str.ofString "pos", .int (pos : Int) ti)] F2 ⟨rfl, rfl, rfl, rfl, trivial⟩
  clear F2
  refine while_D (fun k s' => ∃ h tk u vs' ds' tp, s' = { s with heap := h, toks := tk } ∧
    Fr g L h (KF [(Str.ofString "heap", .ref a), (Str.ofString "startpos", .int 0 t0), (Str.ofString "newitem", v), (Str.ofString "pos", .int (k : Int) tp)] u) ∧ News g L h [(a, listOf vs'.toArray n)] ∧
    AllAt (TupAt g) vs' ds' ∧ DInv lexLt ds' k x ∧ k < ds'.length ∧ ds'.length = ds.length ∧ (ds'.set k x).Perm ds ∧ ∀ d ∈ ds', d.map Pv.isI = sh)
    (fun s' => ∃ (k : Nat) (h : Heap) (tk : Nat) (u : Str → Option Value) (vs' : List Value) (ds' : List DD) (tp : Tok), s' = { s with heap := h, toks := tk } ∧
    Fr g L h (KF [(Str.ofString "heap", .ref a), (Str.ofString "startpos", .int 0 t0), (Str.ofString "newitem", v), (Str.ofString "pos", .int (k : Int) tp)] u) ∧ News g L h [(a, listOf vs'.toArray n)] ∧
    AllAt (TupAt g) vs' ds' ∧ k < ds'.length ∧ ds'.length = ds.length ∧ (ds'.set k x).Perm ds ∧ HeapOk lexLt (ds'.set k x)) pos ?_ ?_ ?_
  · refine ⟨_, _, _, _, _, _, rfl, F3, N2, hAg, inv, hpos, rfl, ?_, hsh⟩
    rw [hvx, List.set_getElem_self]
  · clear N2 F3 hv inv hAg
    rintro k _ ⟨h3, tk3, u3, vs3, ds3, tp3, rfl, F3, N3, A3, I3, hk3, hl3, hp3, hs3⟩
    (repeat' (first | (fail_if_success with_reducible refine Nf.go (by constructor) ?_); (fail_if_success fail_if_success with_reducible refine Fd.go (by constructor) ?_; k_fold); refine (let qk := _; let ek := _; (?_ : wpAny _ _ _ qk ek _)) | (fail_if_success fail_if_success k_unfold); (first | with_reducible refine (?_ : wpAny _ _ _ _ _ _) | k_unfold); (try dsimp only); try clear qk ek | (fail_if_success with_reducible refine Stop.go (by constructor) ?_); first | walk1 | dsimp only; walk1))
    by_cases hk0 : 0 < k
    · refine WhlIf.yes (by simp; (clear hsz hdp hu hk3 hl3; omega)) ?_
      ((fail_if_success (fail_if_success k_fold)); refine (let qk := _; let ek := _; (?_ : wpAny _ _ _ qk ek _)))
      (repeat' (first | (fail_if_success with_reducible refine Nf.go (by constructor) ?_); (fail_if_success fail_if_success with_reducible refine Fd.go (by constructor) ?_; k_fold); refine (let qk := _; let ek := _; (?_ : wpAny _ _ _ qk ek _)) | (fail_if_success fail_if_success k_unfold); (first | with_reducible refine (?_ : wpAny _ _ _ _ _ _) | k_unfold); (try dsimp only); try clear qk ek | (fail_if_success with_reducible refine Stop.go (by constructor) ?_); first | walk1 | dsimp only; walk1))
      rename Heap => h4; rename Fr _ _ _ _ => F4; rename News _ _ _ _ => N4
      try dsimp only at F4 N4 ⊢
      rw [par_eq hk0] at F4 ⊢
      have hpk := par_lt hk0
      obtain ⟨v2, hv2, tv2⟩ := A3.get (Nat.lt_trans hpk hk3)
      refine sub_list (N4 _ (List.mem_cons_self ..)).1 (by (clear hsz hdp hu hl3 hk0; omega)) (by (clear hdp hu; lia)) (by simpa using hv2) ?_
      (repeat' (first | (fail_if_success with_reducible refine Nf.go (by constructor) ?_); (fail_if_success fail_if_success with_reducible refine Fd.go (by constructor) ?_; k_fold); refine (let qk := _; let ek := _; (?_ : wpAny _ _ _ qk ek _)) | (fail_if_success fail_if_success k_unfold); (first | with_reducible refine (?_ : wpAny _ _ _ _ _ _) | k_unfold); (try dsimp only); try clear qk ek | (fail_if_success with_reducible refine Stop.go (by constructor) ?_); first | walk1 | dsimp only; walk1))
      rename Heap => h5; rename Fr _ _ _ _ => F5; rename News _ _ _ _ => N5
      try dsimp only at F5 N5 ⊢
      refine cmp_tup (tv.keeps F5.keep) (tv2.keeps F5.keep) (by rw [hshx, hs3 _ (List.getElem_mem _)]) (by show un + 3 < cLine; rw [cLine_is]; (clear hsz hdp hl3 hk0; omega)) ?_
      (repeat' (first | (fail_if_success with_reducible refine Nf.go (by constructor) ?_); (fail_if_success fail_if_success with_reducible refine Fd.go (by constructor) ?_; k_fold); refine (let qk := _; let ek := _; (?_ : wpAny _ _ _ qk ek _)) | (fail_if_success fail_if_success k_unfold); (first | with_reducible refine (?_ : wpAny _ _ _ _ _ _) | k_unfold); (try dsimp only); try clear qk ek | (fail_if_success with_reducible refine Stop.go (by constructor) ?_); first | walk1 | dsimp only; walk1))
      · rename_i tk5 hlt
        refine set_list F5 N5 (fun _ h => no_mem h) (by (clear hsz hdp hu hl3; omega)) (by (clear hdp hu hk0; lia)) (by rw [A3.length]; (clear hsz hdp hu hl3 hk0; lia)) ?_
        intro h6 F6 N6
        (repeat' (first | (fail_if_success with_reducible refine Nf.go (by constructor) ?_); (fail_if_success fail_if_success with_reducible refine Fd.go (by constructor) ?_; k_fold); refine (let qk := _; let ek := _; (?_ : wpAny _ _ _ qk ek _)) | (fail_if_success fail_if_success k_unfold); (first | with_reducible refine (?_ : wpAny _ _ _ _ _ _) | k_unfold); (try dsimp only); try clear qk ek | (fail_if_success with_reducible refine Stop.go (by constructor) ?_); first | walk1 | dsimp only; walk1))
        rename Heap => h7; rename Fr _ _ _ _ => F7; rename News _ _ _ _ => N7
        try dsimp only at F7 N7 ⊢
        have en : ds3[Par k] = nth ds3 (Par k) := by simp [nth, List.getD_eq_getElem?_getD, Nat.lt_trans hpk hk3]
        rw [en] at hlt tv2
        refine WhlP.cont (Par k) hpk ⟨_, _, _, _, ds3.set k (nth ds3 (Par k)), _, rfl, toKF [(Str.ofString "heap", .ref a), (Str.ofString "startpos", .int 0 t0), (Str.ofString "newitem", v), (Str.ofString "pos", .int (Par k : Int) _)] F7 ⟨rfl, rfl, rfl, rfl, trivial⟩, N7,
          A3.set tv2 k, I3.step (lexLt_ok sh) hs3 hshx hk3 hk0 hlt, by rw [List.length_set]; (clear hsz hdp hu hl3 hk0; lia), by rw [List.length_set]; exact hl3, (set_swap_perm hk3 (Nat.lt_trans hpk hk3) (Nat.ne_of_gt hpk) x).trans hp3, ?_⟩
        exact set_mem_all hs3 (hs3 _ (nth_mem (Nat.lt_trans hpk hk3)))
      · rename_i tk5 hlt
        have en : ds3[Par k] = nth ds3 (Par k) := by simp [nth, List.getD_eq_getElem?_getD, Nat.lt_trans hpk hk3]
        rw [en] at hlt
        exact WhlP.brk ⟨k, _, _, _, _, _, _, rfl, toKF [(Str.ofString "heap", .ref a), (Str.ofString "startpos", .int 0 t0), (Str.ofString "newitem", v), (Str.ofString "pos", .int (k : Int) _)] F5 ⟨rfl, rfl, rfl, rfl, trivial⟩, N5, A3, hk3, hl3, hp3, I3.done hk3 (.inr hlt)⟩
    · refine WhlIf.no (by simp; (clear hsz hdp hu hk3 hl3; lia)) ⟨k, _, _, _, _, _, _, rfl, F3, N3, A3, hk3, hl3, hp3, I3.done hk3 (.inl (by (clear hsz hdp hu hk3 hl3; omega)))⟩
  · clear N2 F3 hv inv hAg
    rintro _ ⟨k, h3, tk3, u3, vs3, ds3, tp3, rfl, F3, N3, A3, hk3, hl3, hp3, hO⟩
    (repeat' (first | (fail_if_success with_reducible refine Nf.go (by constructor) ?_); (fail_if_success fail_if_success with_reducible refine Fd.go (by constructor) ?_; k_fold); refine (let qk := _; let ek := _; (?_ : wpAny _ _ _ qk ek _)) | (fail_if_success fail_if_success k_unfold); (first | with_reducible refine (?_ : wpAny _ _ _ _ _ _) | k_unfold); (try dsimp only); try clear qk ek | (fail_if_success with_reducible refine Stop.go (by constructor) ?_); first | walk1 | dsimp only; walk1))
    refine set_list F3 N3 (fun _ h => no_mem h) (by (clear hsz hdp hu hk3 hl3; omega)) (by (clear hdp hu; lia)) (by rw [A3.length]; (clear hsz hdp hu hl3; lia)) ?_
    intro h4 F4 N4
    (repeat' (first | (fail_if_success with_reducible refine Nf.go (by constructor) ?_); (fail_if_success fail_if_success with_reducible refine Fd.go (by constructor) ?_; k_fold); refine (let qk := _; let ek := _; (?_ : wpAny _ _ _ qk ek _)) | (fail_if_success fail_if_success k_unfold); (first | with_reducible refine (?_ : wpAny _ _ _ _ _ _) | k_unfold); (try dsimp only); try clear qk ek | (fail_if_success with_reducible refine Stop.go (by constructor) ?_); first | walk1 | dsimp only; walk1))
    refine ret _ _ _ _ (fun b o hb e => F4.keep b o (KP b o (by simpa using hb) e)) (N4 _ (List.mem_cons_self ..)).1 ((A3.set tv k).mono fun _ _ z => z.keeps F4.keep) hO hp3

end
section
variable {w : World} {mg mb : Str → Option Value} {mean : ExcName → Option Value} {dp un : Nat} {gd : Option (List Code)} {fr : List Env} {base : Heap} {s : Shared} {Q E : Value → Shared → Prop}
theorem odd1 (p : Nat) : 2 * (p : Int) + 1 = ((2 * p + 1 : Nat) : Int) := by lia
theorem odd2 (p : Nat) : 2 * (p : Int) + 1 + 1 = ((2 * p + 2 : Nat) : Int) := by lia
theorem odd63 {p n : Nat} (h : p < n) (k : n ≤ 1000000) : (p : Int) < 2 ^ 63 := Int.lt_of_le_of_lt (Int.ofNat_le.mpr (Nat.le_trans (Nat.le_of_lt h) k)) (by decide)
theorem siftup_spec
  {a : Addr} {vs : List Value} {ds : List DD} {n : Nat} {sh : List Bool} {t0 : Tok}
  (X : (Mine.heapK w.params).In base) (T : Top topProg GL mean mg mb base) (hS : base.StaysIn s.heap)
  (ha : s.heap.get? a = some (listOf vs.toArray n)) (hb : base.get? a = none)
  (hA : AllAt (TupAt s.heap) vs ds) (hsh : ∀ d ∈ ds, d.map Pv.isI = sh) (hpos : 0 < ds.length) (inv : UInv lexLt ds 0) (hsz : ds.length ≤ 1000000)
  (hdp : dp < 800) (hu : un < 900)
  (ret : ∀ vs' ds' h' tk', Keep [a] s.heap h' → h'.get? a = some (listOf vs'.toArray n) → AllAt (TupAt h') vs' ds' → HeapOk lexLt ds' → ds'.Perm ds → Q .none { s with heap := h', toks := tk' }) :
  wpAny (model PySem.Challenge.rw_ik0220_02.row.prog w) (amb dp un gd fr) (call (.ref 210) [.ref a, .int 0 t0]) Q E s := by
  revert X; k_fill; intro X
  refine wpAny_call ?_
  k_dflt (refine' enterF [(Str.ofString "pos", .int 0 t0), (Str.ofString "heap", .ref a)] [(a, listOf vs.toArray n)] ?kX ?kT hS ?kD ?kho ?khcd ?kroom ?kb ?kl ?kr ?_ ?c1 ?c2 ?c3 ?c4; (
  (case kX => assumption); (case kT => assumption); (case kho => k_is); (case khcd => k_is); (case kb => first | exact BindsTo.of_eq rfl | exact binds_K (by k_in) rfl (by k_is) rfl rfl rfl);
  (case kl => exact locs rfl); (case kr => exact rfl); (case c1 => exact rfl); (case c2 => exact rfl); (case c3 => exact rfl); (case c4 => first | decide | exact fun _ => rfl); (case kroom => first | exact rm0 hdp rfl | (simp only [recursionLimit]; omega))); (case kD => intro q hq; rcases List.mem_singleton.mp hq with rfl; exact ⟨ha, hb⟩))
  intro g L h1 fr' tk F N X1 T1 KP LT
  refine (let aA := _; let eN := _; let qk := _; let ek := _; (?_ : wpAny _ aA (execs _ eN) qk ek _))
  have hAg : AllAt (TupAt g) vs ds := hA.mono fun v d z => z.kept KP fun b hb o ho => by
    simp at hb; subst hb; rw [ha] at ho; cases ho; simp
  (repeat' (first | (fail_if_success with_reducible refine Nf.go (by constructor) ?_); (fail_if_success fail_if_success with_reducible refine Fd.go (by constructor) ?_; k_fold); refine (let qk := _; let ek := _; (?_ : wpAny _ _ _ qk ek _)) | (fail_if_success fail_if_success k_unfold); (first | with_reducible refine (?_ : wpAny _ _ _ _ _ _) | k_unfold); (try dsimp only); try clear qk ek | (fail_if_success with_reducible refine Stop.go (by constructor) ?_); first | walk1 | dsimp only; walk1))
  refine len_li (N _ (List.mem_cons_self ..)).1 (by rw [hA.length]; (clear hdp hu; lia)) fun t2 tk2 => ?_
  (repeat' (first | (fail_if_success with_reducible refine Nf.go (by constructor) ?_); (fail_if_success fail_if_success with_reducible refine Fd.go (by constructor) ?_; k_fold); refine (let qk := _; let ek := _; (?_ : wpAny _ _ _ qk ek _)) | (fail_if_success fail_if_success k_unfold); (first | with_reducible refine (?_ : wpAny _ _ _ _ _ _) | k_unfold); (try dsimp only); try clear qk ek | (fail_if_success with_reducible refine Stop.go (by constructor) ?_); first | walk1 | dsimp only; walk1))
  rename Heap => h2; rename Fr _ _ _ _ => F2; rename News _ _ _ _ => N2
  obtain ⟨v, hv, tv⟩ := hAg.get hpos
  refine sub_list (N2 _ (List.mem_cons_self ..)).1 (by (clear hsz hdp hu; lia)) (by (clear hsz hdp hu; lia)) (by simpa using hv) ?_
  (repeat' (first | (fail_if_success with_reducible refine Nf.go (by constructor) ?_); (fail_if_success fail_if_success with_reducible refine Fd.go (by constructor) ?_; k_fold); refine (let qk := _; let ek := _; (?_ : wpAny _ _ _ qk ek _)) | (fail_if_success fail_if_success k_unfold); (first | with_reducible refine (?_ : wpAny _ _ _ _ _ _) | k_unfold); (try dsimp only); try clear qk ek | (fail_if_success with_reducible refine Stop.go (by constructor) ?_); first | walk1 | dsimp only; walk1))
  rename Heap => h3; rename Fr _ _ _ _ => F3; rename News _ _ _ _ => N3
  have hvx : ds[0] = nth ds 0 := by simp [nth, List.getD_eq_getElem?_getD, hpos]
  rw [hvx] at tv
  have hshx := hsh _ (nth_mem hpos)
  generalize hx : nth ds 0 = x at tv hshx
  have hlv := hA.length
  refine while_D (fun k s' => ∃ (h : Heap) (tk : Nat) (u : Str → Option Value) (vs' : List Value) (ds' : List DD) (tp tc : Tok) (pos : Nat), s' = { s with heap := h, toks := tk } ∧
    Fr g L h (KF [(Str.ofString "heap", .ref a), (Str.ofString "startpos", .int 0 t0), (Str.ofString "newitem", v), (Str.ofString "pos", .int (pos : Int) tp), (Str.ofString "childpos", .int (2 * (pos : Int) + 1) tc), (Str.ofString "endpos", .int (vs.length : Int) t2)] u) ∧ News g L h [(a, listOf vs'.toArray n)] ∧
    AllAt (TupAt g) vs' ds' ∧ UInv lexLt ds' pos ∧ pos < ds'.length ∧ ds'.length = ds.length ∧ (ds'.set pos x).Perm ds ∧ (∀ d ∈ ds', d.map Pv.isI = sh) ∧ k = ds.length - pos)
    (fun s' => ∃ (h : Heap) (tk : Nat) (u : Str → Option Value) (vs' : List Value) (ds' : List DD) (tp : Tok) (pos : Nat), s' = { s with heap := h, toks := tk } ∧
    Fr g L h (KF [(Str.ofString "heap", .ref a), (Str.ofString "startpos", .int 0 t0), (Str.ofString "newitem", v), (Str.ofString "pos", .int (pos : Int) tp)] u) ∧ News g L h [(a, listOf vs'.toArray n)] ∧
    AllAt (TupAt g) vs' ds' ∧ pos < ds'.length ∧ ds'.length = ds.length ∧ (ds'.set pos x).Perm ds ∧ (∀ d ∈ ds', d.map Pv.isI = sh) ∧ DInv lexLt ds' pos x) (ds.length - 0) ?_ ?_ ?_
  · refine ⟨_, _, _, _, _, _, _, 0, rfl, toKF [(Str.ofString "heap", .ref a), (Str.ofString "startpos", .int 0 t0), (Str.ofString "newitem", v), (Str.ofString "pos", .int 0 t0), (Str.ofString "childpos", .int (2 * 0 + 1) _), (Str.ofString "endpos", .int (vs.length : Int) t2)] F3 ⟨rfl, rfl, rfl, rfl, rfl, rfl, trivial⟩, N3, hAg, inv, hpos, rfl, ?_, hsh, rfl⟩
    rw [← hx, ← hvx, List.set_getElem_self]
  · clear N3 F3 hv inv hAg
    rintro k _ ⟨h3, tk3, u3, vs3, ds3, tp3, tc3, pos, rfl, F3, N3, A3, I3, hk3, hl3, hp3, hs3, rfl⟩
    (repeat' (first | (fail_if_success with_reducible refine Nf.go (by constructor) ?_); (fail_if_success fail_if_success with_reducible refine Fd.go (by constructor) ?_; k_fold); refine (let qk := _; let ek := _; (?_ : wpAny _ _ _ qk ek _)) | (fail_if_success fail_if_success k_unfold); (first | with_reducible refine (?_ : wpAny _ _ _ _ _ _) | k_unfold); (try dsimp only); try clear qk ek | (fail_if_success with_reducible refine Stop.go (by constructor) ?_); first | walk1 | dsimp only; walk1))
    by_cases hc : 2 * pos + 1 < ds3.length
    · refine WhlIf.yes (by simp; (clear hsz hdp hu hk3; lia)) ?_
      ((fail_if_success (fail_if_success k_fold)); refine (let qk := _; let ek := _; (?_ : wpAny _ _ _ qk ek _)))
      have hP1 : Par (2 * pos + 1) = pos := by unfold Par; (clear hsz hdp hu hlv hk3 hl3 hc; lia)
      have hP2 : Par (2 * pos + 2) = pos := by unfold Par; (clear hsz hdp hu hlv hk3 hl3 hc; lia)
      have kids : ∀ j, 0 < j → Par j = pos → j = 2 * pos + 1 ∨ j = 2 * pos + 2 := fun j j0 h => by unfold Par at h; (clear hsz hdp hu hlv hk3 hl3 hc; lia)
      have hhu : (amb (dp + 1) (un + 3) gd fr').units < cLine := by show un + 3 < cLine; rw [cLine_is]; (clear hsz hdp hlv hk3 hl3 hc hP1 hP2; omega)
      repeat' (first | (k_unfold; (try dsimp only)) | ((with_reducible show wpAny _ _ (storeName _ _ _) _ _ _); (try dsimp only); walk1) | ((fail_if_success (with_reducible show wpAny _ _ (exec (Stmt.If _ _ _ _) _) _ _ _)); ((fail_if_success with_reducible refine Stop.go (by constructor) ?_); first | walk1 | dsimp only; walk1)))
      ((fail_if_success (fail_if_success k_fold)); refine (let qk := _; let ek := _; (?_ : wpAny _ _ _ qk ek _)))
      have key : ∀ (c : Nat) (z : Int) (tz : Tok) (tk5 : Nat) (h5 : Heap) (u5 : Str → Option Value), z = (c : Int) → Fr g L h5 (KF [(Str.ofString "heap", .ref a), (Str.ofString "startpos", .int 0 t0), (Str.ofString "newitem", v), (Str.ofString "pos", .int (pos : Int) tp3), (Str.ofString "childpos", .int z tz), (Str.ofString "endpos", .int (vs.length : Int) t2)] u5) → News g L h5 [(a, listOf vs3.toArray n)] →
          c < ds3.length → Par c = pos → 0 < c → (∀ j, 0 < j → j < ds3.length → Par j = pos → lexLt (nth ds3 j) (nth ds3 c) = false) → qk .next { s with heap := h5, toks := tk5 } := by
        clear kids hP1 hP2 hc
        rintro c _ tz tk5 h5 u5 rfl FZ NZ hcl hcp hc0 hmin
        (repeat' (first | (fail_if_success with_reducible refine Nf.go (by constructor) ?_); (fail_if_success fail_if_success with_reducible refine Fd.go (by constructor) ?_; k_fold); refine (let qk := _; let ek := _; (?_ : wpAny _ _ _ qk ek _)) | (fail_if_success fail_if_success k_unfold); (first | with_reducible refine (?_ : wpAny _ _ _ _ _ _) | k_unfold); (try dsimp only); try clear qk ek | (fail_if_success with_reducible refine Stop.go (by constructor) ?_); first | walk1 | dsimp only; walk1))
        obtain ⟨vc, hvc, tvc⟩ := A3.get hcl
        have en : ds3[c] = nth ds3 c := by simp [nth, List.getD_eq_getElem?_getD, hcl]
        rw [en] at tvc
        have hpc : pos < c := by have := par_lt hc0; rw [hcp] at this; exact this
        have hcz : c ≤ 1000000 := Nat.le_of_lt (Nat.lt_of_lt_of_le hcl (hl3 ▸ hsz))
        have hc63 : (c : Int) < 2 ^ 63 := Int.lt_of_le_of_lt (Int.ofNat_le.mpr hcz) (by decide)
        refine sub_list (NZ _ (List.mem_cons_self ..)).1 (Int.natCast_nonneg _) hc63 (by simpa using hvc) ?_
        (repeat' (first | (fail_if_success with_reducible refine Nf.go (by constructor) ?_); (fail_if_success fail_if_success with_reducible refine Fd.go (by constructor) ?_; k_fold); refine (let qk := _; let ek := _; (?_ : wpAny _ _ _ qk ek _)) | (fail_if_success fail_if_success k_unfold); (first | with_reducible refine (?_ : wpAny _ _ _ _ _ _) | k_unfold); (try dsimp only); try clear qk ek | (fail_if_success with_reducible refine Stop.go (by constructor) ?_); first | walk1 | dsimp only; walk1))
        refine set_list FZ NZ (fun _ h => no_mem h) (Int.natCast_nonneg _) (Int.lt_trans (Int.ofNat_lt.mpr hpc) hc63) (by rw [A3.length]; exact Int.ofNat_lt.mpr hk3) ?_
        intro h8 F8 N8
        (repeat' (first | (fail_if_success with_reducible refine Nf.go (by constructor) ?_); (fail_if_success fail_if_success with_reducible refine Fd.go (by constructor) ?_; k_fold); refine (let qk := _; let ek := _; (?_ : wpAny _ _ _ qk ek _)) | (fail_if_success fail_if_success k_unfold); (first | with_reducible refine (?_ : wpAny _ _ _ _ _ _) | k_unfold); (try dsimp only); try clear qk ek | (fail_if_success with_reducible refine Stop.go (by constructor) ?_); first | walk1 | dsimp only; walk1))
        rename Heap => h9; rename Fr _ _ _ _ => F9; rename News _ _ _ _ => N9
        try dsimp only at F9 N9 ⊢
        exact WhlP.next (ds.length - c) (Nat.sub_lt_sub_left (Nat.lt_of_lt_of_eq hk3 hl3) hpc) ⟨_, _, _, _, ds3.set pos (nth ds3 c), _, _, c, rfl,
          toKF [(Str.ofString "heap", .ref a), (Str.ofString "startpos", .int 0 t0), (Str.ofString "newitem", v), (Str.ofString "pos", .int (c : Int) _), (Str.ofString "childpos", .int (2 * (c : Int) + 1) _), (Str.ofString "endpos", .int (vs.length : Int) t2)] F9 ⟨rfl, rfl, rfl, rfl, rfl, rfl, trivial⟩, N9,
          A3.set tvc pos, I3.step hk3 c hcl hcp hc0 hmin, by rw [List.length_set]; exact hcl, by rw [List.length_set]; exact hl3, (set_swap_perm hk3 hcl (Nat.ne_of_lt hpc) x).trans hp3, set_mem_all hs3 (hs3 _ (nth_mem hcl)), rfl⟩
      clear_value qk
      (repeat' (first | (fail_if_success with_reducible refine Nf.go (by constructor) ?_); (fail_if_success fail_if_success with_reducible refine Fd.go (by constructor) ?_; k_fold); refine (let qk := _; let ek := _; (?_ : wpAny _ _ _ qk ek _)) | (fail_if_success fail_if_success k_unfold); (first | with_reducible refine (?_ : wpAny _ _ _ _ _ _) | k_unfold); (try dsimp only); try clear qk ek | (fail_if_success with_reducible refine Stop.go (by constructor) ?_); first | walk1 | dsimp only; walk1))
      · rename Heap => h5; rename Fr _ _ _ _ => F5; rename News _ _ _ _ => N5; rename _ < _ => hr
        have hr' : 2 * pos + 2 < ds3.length := by rw [hlv, ← hl3] at hr; (clear hsz hdp hu hlv hk3 hl3 hc hhu; lia)
        obtain ⟨v1, hv1, tv1⟩ := A3.get hc
        obtain ⟨v2, hv2, tv2⟩ := A3.get hr'
        have z1 : (((2 * pos + 1 : Nat) : Int)) < 2 ^ 63 := odd63 hc (hl3 ▸ hsz)
        have z2 : (((2 * pos + 2 : Nat) : Int)) < 2 ^ 63 := odd63 hr' (hl3 ▸ hsz)
        refine sub_list (N5 _ (List.mem_cons_self ..)).1 (odd1 pos ▸ Int.natCast_nonneg _) (odd1 pos ▸ z1) (by rw [odd1, Int.toNat_natCast]; exact hv1) ?_
        (repeat' (first | (fail_if_success with_reducible refine Nf.go (by constructor) ?_); (fail_if_success fail_if_success with_reducible refine Fd.go (by constructor) ?_; k_fold); refine (let qk := _; let ek := _; (?_ : wpAny _ _ _ qk ek _)) | (fail_if_success fail_if_success k_unfold); (first | with_reducible refine (?_ : wpAny _ _ _ _ _ _) | k_unfold); (try dsimp only); try clear qk ek | (fail_if_success with_reducible refine Stop.go (by constructor) ?_); first | walk1 | dsimp only; walk1))
        refine sub_list (N5 _ (List.mem_cons_self ..)).1 (odd2 pos ▸ Int.natCast_nonneg _) (odd2 pos ▸ z2) (by rw [odd2, Int.toNat_natCast]; exact hv2) ?_
        (repeat' (first | (fail_if_success with_reducible refine Nf.go (by constructor) ?_); (fail_if_success fail_if_success with_reducible refine Fd.go (by constructor) ?_; k_fold); refine (let qk := _; let ek := _; (?_ : wpAny _ _ _ qk ek _)) | (fail_if_success fail_if_success k_unfold); (first | with_reducible refine (?_ : wpAny _ _ _ _ _ _) | k_unfold); (try dsimp only); try clear qk ek | (fail_if_success with_reducible refine Stop.go (by constructor) ?_); first | walk1 | dsimp only; walk1))
        have e1 : ds3[2 * pos + 1] = nth ds3 (2 * pos + 1) := by simp [nth, List.getD_eq_getElem?_getD, hc]
        have e2 : ds3[2 * pos + 2] = nth ds3 (2 * pos + 2) := by simp [nth, List.getD_eq_getElem?_getD, hr']
        rw [e1] at tv1
        rw [e2] at tv2
        refine cmp_tup (tv1.keeps F5.keep) (tv2.keeps F5.keep) (by rw [hs3 _ (nth_mem hc), hs3 _ (nth_mem hr')]) hhu ?_
        (repeat' (first | (fail_if_success with_reducible refine Nf.go (by constructor) ?_); (fail_if_success fail_if_success with_reducible refine Fd.go (by constructor) ?_; k_fold); refine (let qk := _; let ek := _; (?_ : wpAny _ _ _ qk ek _)) | (fail_if_success fail_if_success k_unfold); (first | with_reducible refine (?_ : wpAny _ _ _ _ _ _) | k_unfold); (try dsimp only); try clear qk ek | (fail_if_success with_reducible refine Stop.go (by constructor) ?_); first | walk1 | dsimp only; walk1))
        · rename_i hlt
          exact key (2 * pos + 1) _ _ _ _ _ (odd1 pos) (toKF [(Str.ofString "heap", .ref a), (Str.ofString "startpos", .int 0 t0), (Str.ofString "newitem", v), (Str.ofString "pos", .int (pos : Int) tp3), (Str.ofString "childpos", .int _ _), (Str.ofString "endpos", .int (vs.length : Int) t2)] F5 ⟨rfl, rfl, rfl, rfl, rfl, rfl, trivial⟩) N5 hc hP1 (Nat.succ_pos _) fun j j0 hj h => by
            rcases kids j j0 h with rfl | rfl
            · exact lexLt_irr _
            · exact lexLt_asym _ _ hlt
        · rename_i hlt hZ FZ NZ
          exact key (2 * pos + 2) _ _ _ _ _ (odd2 pos) (toKF [(Str.ofString "heap", .ref a), (Str.ofString "startpos", .int 0 t0), (Str.ofString "newitem", v), (Str.ofString "pos", .int (pos : Int) tp3), (Str.ofString "childpos", .int _ _), (Str.ofString "endpos", .int (vs.length : Int) t2)] FZ ⟨rfl, rfl, rfl, rfl, rfl, rfl, trivial⟩) NZ hr' hP2 (Nat.succ_pos _) fun j j0 hj h => by
            rcases kids j j0 h with rfl | rfl
            · exact hlt
            · exact lexLt_irr _
      · rename Heap => hZ; rename Fr _ _ _ _ => FZ; rename News _ _ _ _ => NZ; rename ¬ _ => hr
        exact key (2 * pos + 1) _ _ _ _ _ (odd1 pos) (toKF [(Str.ofString "heap", .ref a), (Str.ofString "startpos", .int 0 t0), (Str.ofString "newitem", v), (Str.ofString "pos", .int (pos : Int) tp3), (Str.ofString "childpos", .int _ _), (Str.ofString "endpos", .int (vs.length : Int) t2)] FZ ⟨rfl, rfl, rfl, rfl, rfl, rfl, trivial⟩) NZ hc hP1 (Nat.succ_pos _) fun j j0 hj h => by
          rcases kids j j0 h with rfl | rfl
          · exact lexLt_irr _
          · rw [hlv, ← hl3] at hr; (clear hsz hdp hu hlv hk3 hl3 hc hhu; lia)
    · refine WhlIf.no (by simp; (clear hsz hdp hu hk3; lia)) ⟨_, _, _, _, _, _, pos, rfl, toKF [(Str.ofString "heap", .ref a), (Str.ofString "startpos", .int 0 t0), (Str.ofString "newitem", v), (Str.ofString "pos", .int (pos : Int) _)] F3 ⟨rfl, rfl, rfl, rfl, trivial⟩, N3, A3, hk3, hl3, hp3, hs3, I3.leaf (by (clear hsz hdp hu hlv hk3 hl3; lia)) x⟩
  · clear N3 F3 hv inv hAg
    rintro _ ⟨h3, tk3, u3, vs3, ds3, tp3, pos, rfl, F3, N3, A3, hk3, hl3, hp3, hs3, hO⟩
    (repeat' (first | (fail_if_success with_reducible refine Nf.go (by constructor) ?_); (fail_if_success fail_if_success with_reducible refine Fd.go (by constructor) ?_; k_fold); refine (let qk := _; let ek := _; (?_ : wpAny _ _ _ qk ek _)) | (fail_if_success fail_if_success k_unfold); (first | with_reducible refine (?_ : wpAny _ _ _ _ _ _) | k_unfold); (try dsimp only); try clear qk ek | (fail_if_success with_reducible refine Stop.go (by constructor) ?_); first | walk1 | dsimp only; walk1))
    refine set_list F3 N3 (fun _ h => no_mem h) (by (clear hsz hdp hu hlv hk3 hl3; omega)) (by (clear hdp hu; lia)) (by rw [A3.length]; (clear hsz hdp hu hlv hl3; omega)) ?_
    intro h4 F4 N4
    (repeat' (first | (fail_if_success with_reducible refine Nf.go (by constructor) ?_); (fail_if_success fail_if_success with_reducible refine Fd.go (by constructor) ?_; k_fold); refine (let qk := _; let ek := _; (?_ : wpAny _ _ _ qk ek _)) | (fail_if_success fail_if_success k_unfold); (first | with_reducible refine (?_ : wpAny _ _ _ _ _ _) | k_unfold); (try dsimp only); try clear qk ek | (fail_if_success with_reducible refine Stop.go (by constructor) ?_); first | walk1 | dsimp only; walk1))
    have tup : AllAt (TupAt h4) (vs3.set (pos : Int).toNat v) (ds3.set pos x) := (A3.set tv pos).mono fun _ _ z => z.keeps F4.keep
    have z4 := N4 _ (List.mem_cons_self ..)
    have hl5 : (ds3.set pos x).length = ds.length := by rw [List.length_set]; exact hl3
    refine siftdown_spec (ds := ds3.set pos x) (x := x) (sh := sh) X1 T1 F4.keep z4.1 z4.2.2 tup (set_mem_all hs3 hshx) (by (clear hsz hdp hu z4; lia)) (nth_set_eq hk3) hO.any (by (clear hdp hu hk3 z4; lia)) (by (clear hsz hu hlv hk3 hl3 z4 hl5; omega)) (by (clear hsz hdp hlv hk3 hl3 z4 hl5; omega)) fun vs5 ds5 h5 tk5 k5 e5 A5 O5 p5 => ?_
    (repeat' (first | (fail_if_success with_reducible refine Nf.go (by constructor) ?_); (fail_if_success fail_if_success with_reducible refine Fd.go (by constructor) ?_; k_fold); refine (let qk := _; let ek := _; (?_ : wpAny _ _ _ qk ek _)) | (fail_if_success fail_if_success k_unfold); (first | with_reducible refine (?_ : wpAny _ _ _ _ _ _) | k_unfold); (try dsimp only); try clear qk ek | (fail_if_success with_reducible refine Stop.go (by constructor) ?_); first | walk1 | dsimp only; walk1))
    exact ret vs5 ds5 h5 _ (fun b o hb e => k5 b o hb (F4.keep b o (KP b o (by simpa using hb) e))) e5 A5 O5 (p5.trans hp3)
theorem heappush_spec
  {a : Addr} {vs : List Value} {ds : List DD} {n : Nat} {sh : List Bool} {v : Value} {x : DD}
  (X : (Mine.heapK w.params).In base) (T : Top topProg GL mean mg mb base) (hS : base.StaysIn s.heap)
  (ha : s.heap.get? a = some (listOf vs.toArray n)) (hb : base.get? a = none)
  (hA : AllAt (TupAt s.heap) vs ds) (tv : TupAt s.heap v x) (hsh : ∀ d ∈ ds, d.map Pv.isI = sh) (hx : x.map Pv.isI = sh) (hO : HeapOk lexLt ds) (hsz : ds.length < 1000000)
  (hdp : dp < 700) (hu : un < 800)
  (ret : ∀ vs' ds' n' h' tk', Keep [a] s.heap h' → h'.get? a = some (listOf vs'.toArray n') → AllAt (TupAt h') vs' ds' → HeapOk lexLt ds' → ds'.Perm (x :: ds) → Q .none { s with heap := h', toks := tk' }) :
  wpAny (model PySem.Challenge.rw_ik0220_02.row.prog w) (amb dp un gd fr) (call (.ref 189) [.ref a, v]) Q E s := by
  revert X; k_fill; intro X
  refine wpAny_call ?_
  k_dflt (refine' enterF [(Str.ofString "item", v), (Str.ofString "heap", .ref a)] [(a, listOf vs.toArray n)] ?kX ?kT hS ?kD ?kho ?khcd ?kroom ?kb ?kl ?kr ?_ ?c1 ?c2 ?c3 ?c4; (
  (case kX => assumption); (case kT => assumption); (case kho => k_is); (case khcd => k_is); (case kb => first | exact BindsTo.of_eq rfl | exact binds_K (by k_in) rfl (by k_is) rfl rfl rfl);
  (case kl => exact locs rfl); (case kr => exact rfl); (case c1 => exact rfl); (case c2 => exact rfl); (case c3 => exact rfl); (case c4 => first | decide | exact fun _ => rfl); (case kroom => first | exact rm0 hdp rfl | (simp only [recursionLimit]; omega))); (case kD => intro q hq; rcases List.mem_singleton.mp hq with rfl; exact ⟨ha, hb⟩))
  intro g L h1 fr' tk F N X1 T1 KP LT
  refine (let aA := _; let eN := _; let qk := _; let ek := _; (?_ : wpAny _ aA (execs _ eN) qk ek _))
  have kt : ∀ v d, TupAt s.heap v d → TupAt g v d := fun v d z => z.kept KP fun b hb o ho => by
    simp at hb; subst hb; rw [ha] at ho; cases ho; simp
  have hAg : AllAt (TupAt g) vs ds := hA.mono kt
  have tvg := kt _ _ tv
  (repeat' (first | (fail_if_success with_reducible refine Nf.go (by constructor) ?_); (fail_if_success fail_if_success with_reducible refine Fd.go (by constructor) ?_; k_fold); refine (let qk := _; let ek := _; (?_ : wpAny _ _ _ qk ek _)) | (fail_if_success fail_if_success k_unfold); (first | with_reducible refine (?_ : wpAny _ _ _ _ _ _) | k_unfold); (try dsimp only); try clear qk ek | (fail_if_success with_reducible refine Stop.go (by constructor) ?_); first | walk1 | dsimp only; walk1))
  refine append_li F N (fun _ h => no_mem h) (by rw [hA.length]; (clear hdp hu; lia)) ?_
  intro h2 F2 N2
  (repeat' (first | (fail_if_success with_reducible refine Nf.go (by constructor) ?_); (fail_if_success fail_if_success with_reducible refine Fd.go (by constructor) ?_; k_fold); refine (let qk := _; let ek := _; (?_ : wpAny _ _ _ qk ek _)) | (fail_if_success fail_if_success k_unfold); (first | with_reducible refine (?_ : wpAny _ _ _ _ _ _) | k_unfold); (try dsimp only); try clear qk ek | (fail_if_success with_reducible refine Stop.go (by constructor) ?_); first | walk1 | dsimp only; walk1))
  refine len_li (N2 _ (List.mem_cons_self ..)).1 (by simp; rw [hA.length]; (clear hdp hu; lia)) fun t3 tk3 => ?_
  (repeat' (first | (fail_if_success with_reducible refine Nf.go (by constructor) ?_); (fail_if_success fail_if_success with_reducible refine Fd.go (by constructor) ?_; k_fold); refine (let qk := _; let ek := _; (?_ : wpAny _ _ _ qk ek _)) | (fail_if_success fail_if_success k_unfold); (first | with_reducible refine (?_ : wpAny _ _ _ _ _ _) | k_unfold); (try dsimp only); try clear qk ek | (fail_if_success with_reducible refine Stop.go (by constructor) ?_); first | walk1 | dsimp only; walk1))
  try dsimp only
  have el : ((vs ++ [v]).length : Int) - 1 = ((ds.length : Nat) : Int) := by rw [← hA.length]; simp
  rw [el]
  have z2 := N2 _ (List.mem_cons_self ..)
  have hpu := DInv.push hO x
  refine siftdown_spec (ds := ds ++ [x]) (x := x) (sh := sh) X1 T1 F2.keep z2.1 z2.2.2 ((hAg.append (.cons tvg .nil)).mono fun _ _ z => z.keeps F2.keep) (fun d hd => ?_) (by simp) (by simp [nth, List.getD_eq_getElem?_getD]) hpu (by simp; (clear hdp hu z2; lia)) (by (clear hsz hu el z2; omega)) (by (clear hsz hdp el z2; omega)) fun vs5 ds5 h5 tk5 k5 e5 A5 O5 p5 => ?_
  · rcases List.mem_append.mp hd with hd | hd
    · exact hsh d hd
    · rw [List.mem_singleton.mp hd]; exact hx
  (repeat' (first | (fail_if_success with_reducible refine Nf.go (by constructor) ?_); (fail_if_success fail_if_success with_reducible refine Fd.go (by constructor) ?_; k_fold); refine (let qk := _; let ek := _; (?_ : wpAny _ _ _ qk ek _)) | (fail_if_success fail_if_success k_unfold); (first | with_reducible refine (?_ : wpAny _ _ _ _ _ _) | k_unfold); (try dsimp only); try clear qk ek | (fail_if_success with_reducible refine Stop.go (by constructor) ?_); first | walk1 | dsimp only; walk1))
  exact ret vs5 ds5 _ h5 _ (fun b o hb e => k5 b o hb (F2.keep b o (KP b o (by simpa using hb) e))) e5 A5 O5 (p5.trans List.perm_append_comm)
theorem heappop_spec
  {a : Addr} {vs : List Value} {ds : List DD} {n : Nat} {sh : List Bool}
  (X : (Mine.heapK w.params).In base) (T : Top topProg GL mean mg mb base) (hS : base.StaysIn s.heap)
  (ha : s.heap.get? a = some (listOf vs.toArray n)) (hb : base.get? a = none)
  (hA : AllAt (TupAt s.heap) vs ds) (hsh : ∀ d ∈ ds, d.map Pv.isI = sh) (hO : HeapOk lexLt ds) (hne : 0 < ds.length) (hsz : ds.length < 1000000)
  (hdp : dp < 700) (hu : un < 800)
  (ret : ∀ v x vs' ds' n' h' tk', Keep [a] s.heap h' → h'.get? a = some (listOf vs'.toArray n') → TupAt h' v x → AllAt (TupAt h') vs' ds' → HeapOk lexLt ds' → (x :: ds').Perm ds → (∀ d ∈ ds, lexLt d x = false) → Q v { s with heap := h', toks := tk' }) :
  wpAny (model PySem.Challenge.rw_ik0220_02.row.prog w) (amb dp un gd fr) (call (.ref 196) [.ref a]) Q E s := by
  revert X; k_fill; intro X
  refine wpAny_call ?_
  k_dflt (refine' enterF [(Str.ofString "heap", .ref a)] [(a, listOf vs.toArray n)] ?kX ?kT hS ?kD ?kho ?khcd ?kroom ?kb ?kl ?kr ?_ ?c1 ?c2 ?c3 ?c4; (
  (case kX => assumption); (case kT => assumption); (case kho => k_is); (case khcd => k_is); (case kb => first | exact BindsTo.of_eq rfl | exact binds_K (by k_in) rfl (by k_is) rfl rfl rfl);
  (case kl => exact locs rfl); (case kr => exact rfl); (case c1 => exact rfl); (case c2 => exact rfl); (case c3 => exact rfl); (case c4 => first | decide | exact fun _ => rfl); (case kroom => first | exact rm0 hdp rfl | (simp only [recursionLimit]; omega))); (case kD => intro q hq; rcases List.mem_singleton.mp hq with rfl; exact ⟨ha, hb⟩))
  intro g L h1 fr' tk F N X1 T1 KP LT
  refine (let aA := _; let eN := _; let qk := _; let ek := _; (?_ : wpAny _ aA (execs _ eN) qk ek _))
  have kt : ∀ v d, TupAt s.heap v d → TupAt g v d := fun v d z => z.kept KP fun b hb o ho => by
    simp at hb; subst hb; rw [ha] at ho; cases ho; simp
  have hAg : AllAt (TupAt g) vs ds := hA.mono kt
  have hvl := hA.length
  obtain ⟨vi, vz, rfl⟩ : ∃ vi vz, vs = vi ++ [vz] := ⟨vs.dropLast, vs.getLast (by intro h; subst h; simp at hvl; (clear hdp hu; lia)), (List.dropLast_concat_getLast _).symm⟩
  obtain ⟨di, dz, rfl⟩ : ∃ di dz, ds = di ++ [dz] := ⟨ds.dropLast, ds.getLast (by intro h; subst h; simp at hne), (List.dropLast_concat_getLast _).symm⟩
  have hil : vi.length = di.length := by simpa using hvl
  have hAi : AllAt (TupAt g) vi di := by have := hAg.dropLast; simpa using this
  have tz : TupAt g vz dz := by
    obtain ⟨v9, e9, t9⟩ := hAg.get (i := di.length) (by simp)
    rw [← hil] at e9
    simp at e9
    subst e9
    simpa using t9
  have hOi : HeapOk lexLt di := by have := hO.dropLast; simpa using this
  have hroot := hO.rootMem (lexLt_ok sh) hsh
  have hsi : ∀ d ∈ di, d.map Pv.isI = sh := fun d hd => hsh d (List.mem_append_left _ hd)
  have hsz' : di.length < 1000000 := by simp at hsz; (clear hdp hu hne hvl; lia)
  (repeat' (first | (fail_if_success with_reducible refine Nf.go (by constructor) ?_); (fail_if_success fail_if_success with_reducible refine Fd.go (by constructor) ?_; k_fold); refine (let qk := _; let ek := _; (?_ : wpAny _ _ _ qk ek _)) | (fail_if_success fail_if_success k_unfold); (first | with_reducible refine (?_ : wpAny _ _ _ _ _ _) | k_unfold); (try dsimp only); try clear qk ek | (fail_if_success with_reducible refine Stop.go (by constructor) ?_); first | walk1 | dsimp only; walk1))
  refine pop_li F N (fun _ h => no_mem h) (by (clear hdp hu hne hsz hvl; lia)) ?_
  intro h2 F2 N2
  (repeat' (first | (fail_if_success with_reducible refine Nf.go (by constructor) ?_); (fail_if_success fail_if_success with_reducible refine Fd.go (by constructor) ?_; k_fold); refine (let qk := _; let ek := _; (?_ : wpAny _ _ _ qk ek _)) | (fail_if_success fail_if_success k_unfold); (first | with_reducible refine (?_ : wpAny _ _ _ _ _ _) | k_unfold); (try dsimp only); try clear qk ek | (fail_if_success with_reducible refine Stop.go (by constructor) ?_); first | walk1 | dsimp only; walk1))
  · rename Heap => h3; rename Fr _ _ _ _ => F3; rename News _ _ _ _ => N3; rename List.isEmpty _ = _ => he
    have ev : vi = [] := List.isEmpty_iff.mp he
    subst ev
    have ed : di = [] := List.length_eq_zero_iff.mp hil.symm
    subst ed
    exact ret vz dz [] [] _ h3 _ (fun b o hb e => F3.keep b o (KP b o (by simpa using hb) e)) (N3 _ (List.mem_cons_self ..)).1 (tz.keeps F3.keep) .nil HeapOk.nil (List.Perm.refl _) (fun d hd => by rw [List.mem_singleton.mp hd]; exact lexLt_irr _)
  · rename Heap => h3; rename Fr _ _ _ _ => F3; rename News _ _ _ _ => N3; rename List.isEmpty _ = _ => he
    have hne' : 0 < di.length := by
      rcases Nat.eq_zero_or_pos di.length with e | e
      · rw [← hil] at e; rw [List.length_eq_zero_iff.mp e] at he; cases he
      · exact e
    obtain ⟨v0, hv0, t0⟩ := hAi.get hne'
    refine sub_list (N3 _ (List.mem_cons_self ..)).1 (by (clear hdp hu hne hsz hvl hil hsz'; omega)) (by (clear hdp hu hne hsz hvl hil hsz'; omega)) (by simpa using hv0) ?_
    (repeat' (first | (fail_if_success with_reducible refine Nf.go (by constructor) ?_); (fail_if_success fail_if_success with_reducible refine Fd.go (by constructor) ?_; k_fold); refine (let qk := _; let ek := _; (?_ : wpAny _ _ _ qk ek _)) | (fail_if_success fail_if_success k_unfold); (first | with_reducible refine (?_ : wpAny _ _ _ _ _ _) | k_unfold); (try dsimp only); try clear qk ek | (fail_if_success with_reducible refine Stop.go (by constructor) ?_); first | walk1 | dsimp only; walk1))
    rename Heap => h4; rename Fr _ _ _ _ => F4; rename News _ _ _ _ => N4
    refine set_list F4 N4 (fun _ h => no_mem h) (by (clear hdp hu hne hsz hvl hil hsz'; omega)) (by (clear hdp hu hne hsz hvl hil hsz'; omega)) (by (clear hdp hu hne hsz hvl; lia)) ?_
    intro h5 F5 N5
    (repeat' (first | (fail_if_success with_reducible refine Nf.go (by constructor) ?_); (fail_if_success fail_if_success with_reducible refine Fd.go (by constructor) ?_; k_fold); refine (let qk := _; let ek := _; (?_ : wpAny _ _ _ qk ek _)) | (fail_if_success fail_if_success k_unfold); (first | with_reducible refine (?_ : wpAny _ _ _ _ _ _) | k_unfold); (try dsimp only); try clear qk ek | (fail_if_success with_reducible refine Stop.go (by constructor) ?_); first | walk1 | dsimp only; walk1))
    have z5 := N5 _ (List.mem_cons_self ..)
    have e0 : di[0] = nth di 0 := by simp [nth, List.getD_eq_getElem?_getD, hne']
    obtain ⟨d0, dr, rfl⟩ : ∃ d0 dr, di = d0 :: dr := by cases di with
      | nil => exact absurd hne' (Nat.lt_irrefl _)
      | cons d0 dr => exact ⟨d0, dr, rfl⟩
    have e0' : nth ((d0 :: dr) ++ [dz]) 0 = nth (d0 :: dr) 0 := rfl
    rw [e0] at t0
    rw [e0'] at hroot
    refine siftup_spec (ds := (d0 :: dr).set 0 dz) (sh := sh) X1 T1 F5.keep z5.1 z5.2.2 ((hAi.set tz 0).mono fun _ _ z => z.keeps F5.keep) (set_mem_all hsi (hsh _ (by simp))) (by rw [List.length_set]; exact hne') (UInv.start hOi dz) (by rw [List.length_set]; (clear hdp hu z5 hne hsz hvl; lia)) (by (clear hu z5 hne hsz hvl hil hsz'; omega)) (by (clear hdp z5 hne hsz hvl hil hsz'; omega)) fun vs6 ds6 h6 tk6 k6 e6 A6 O6 p6 => ?_
    (repeat' (first | (fail_if_success with_reducible refine Nf.go (by constructor) ?_); (fail_if_success fail_if_success with_reducible refine Fd.go (by constructor) ?_; k_fold); refine (let qk := _; let ek := _; (?_ : wpAny _ _ _ qk ek _)) | (fail_if_success fail_if_success k_unfold); (first | with_reducible refine (?_ : wpAny _ _ _ _ _ _) | k_unfold); (try dsimp only); try clear qk ek | (fail_if_success with_reducible refine Stop.go (by constructor) ?_); first | walk1 | dsimp only; walk1))
    have kk : Keep [a] g h6 := fun b o hb e => k6 b o hb (F5.keep b o e)
    have F6 := Fr.kept F5 k6 (fun b hb => by rw [List.mem_singleton.mp hb]; exact z5.2.2) (fun hb => z5.2.1 (List.mem_singleton.mp hb).symm)
    have N6 : News g L h6 [(a, listOf vs6.toArray (n + 1))] := fun p hp => by rw [List.mem_singleton.mp hp]; exact ⟨e6, z5.2⟩
    (repeat' (first | (fail_if_success with_reducible refine Nf.go (by constructor) ?_); (fail_if_success fail_if_success with_reducible refine Fd.go (by constructor) ?_; k_fold); refine (let qk := _; let ek := _; (?_ : wpAny _ _ _ qk ek _)) | (fail_if_success fail_if_success k_unfold); (first | with_reducible refine (?_ : wpAny _ _ _ _ _ _) | k_unfold); (try dsimp only); try clear qk ek | (fail_if_success with_reducible refine Stop.go (by constructor) ?_); first | walk1 | dsimp only; walk1))
    refine ret v0 d0 vs6 ds6 _ h6 _ (fun b o hb e => kk b o hb (KP b o (by simpa using hb) e)) e6 (t0.keeps F6.keep) A6 O6 ((p6.cons d0).trans ?_) hroot
    show (d0 :: dz :: dr).Perm (d0 :: (dr ++ [dz]))
    exact (List.perm_append_comm (l₁ := [dz]) (l₂ := dr)).cons d0

end
section
variable {w : World} {mg mb : Str → Option Value} {mean : ExcName → Option Value} {dp un : Nat} {gd : Option (List Code)} {fr : List Env} {base : Heap} {s : Shared} {Q E : Value → Shared → Prop}
theorem part_count_spec
  {c d : Addr} {vs : List Value} {n : Nat} {es : List DictEntry} {k : Nat}
  (X : (Mine.heapK w.params).In base) (T : Top topProg GL mean mg mb base) (hS : base.StaysIn s.heap)
  (hc : s.heap.get? c = some (accObj d vs n)) (hd : s.heap.get? d = some (dictOf es k)) (hbc : base.get? c = none) (hbd : base.get? d = none)
  (hdp : dp < 900) (hu : un < 1000)
  (ret : ∀ t h' tk', Keep [] s.heap h' → Q (.int (vs.length : Int) t) { s with heap := h', toks := tk' }) :
  wpAny (model PySem.Challenge.rw_ik0220_02.row.prog w) (amb dp un gd fr) (call (.ref 175) [.ref c]) Q E s := by
  revert X; k_fill; intro X
  refine wpAny_call ?_
  k_dflt (refine' enterS [(Str.ofString "self", .ref c)] [(c, accObj d vs n), (d, dictOf es k)] ?kX ?kT hS ?kD ?kho ?khcd ?kroom ?kb ?kl ?kr ?_ ?c1 ?c2 ?c3 ?c4; (
  (case kX => assumption); (case kT => assumption); (case kho => k_is); (case khcd => k_is); (case kb => first | exact BindsTo.of_eq rfl | exact binds_K (by k_in) rfl (by k_is) rfl rfl rfl);
  (case kl => exact locs rfl); (case kr => exact rfl); (case c1 => exact rfl); (case c2 => exact rfl); (case c3 => exact rfl); (case c4 => first | decide | exact fun _ => rfl); (case kroom => first | exact rm0 hdp rfl | (simp only [recursionLimit]; omega))); (case kD => intro q hq; rcases List.mem_cons.mp hq with rfl | hq; exact ⟨hc, hbc⟩; rcases List.mem_singleton.mp hq with rfl; exact ⟨hd, hbd⟩))
  intro g L h1 tk F N X1 T1 KP LT
  (repeat' (first | (fail_if_success fail_if_success k_unfold); (first | with_reducible refine (?_ : wpAny _ _ _ _ _ _) | k_unfold); try dsimp only | (with_reducible show wpAny _ _ (storeName _ _ _) _ _ _); (try dsimp only); walk1 | (with_reducible show PySem.wpAt _ _ _ _ _ _ _); walk_at "wpAt" | (fail_if_success with_reducible show wpAny _ _ (getMethod (Value.ref _) _ _) _ _ _); (fail_if_success with_reducible refine Stop.go (by constructor) ?_); first | walk1 | dsimp only; walk1))
  rename_i so h2 F2 N2 l2
  k_dflt (refine' sup_method d_len F2 X1 N2 (.head _) ?kI ?k1 ?k2 ?k3 ?k4 ?_; (case kI => exact accInst N2 (.tail _ (.head _)) (.tail _ (.tail _ (.head _)))); (case k1 => k_is); (case k2 => ks_is); (case k3 => k_is); (case k4 => decide))
  intro q h3 F3 N3 l3
  refine bnd_callWith0 (by decide) (by decide) (N3 _ (.head _)).1 ?_
  refine sup_len (N3 _ (.head _)).1 (N3 _ (.tail _ (.tail _ (.head _)))).1 rfl fun t tk => ?_
  refine ret t h3 _ (keep_of (D := [(c, accObj d vs n), (d, dictOf es k)]) (fun q hq => by rcases List.mem_cons.mp hq with rfl | hq; exact hc; rw [List.mem_singleton.mp hq]; exact hd) KP F3.keep ?_)
  intro q hq _
  rcases List.mem_cons.mp hq with rfl | hq
  · exact (N3 _ (.tail _ (.tail _ (.head _)))).1
  · rw [List.mem_singleton.mp hq]; exact (N3 _ (.tail _ (.tail _ (.tail _ (.head _))))).1

end
section
variable {w : World} {mg mb : Str → Option Value} {mean : ExcName → Option Value} {dp un : Nat} {gd : Option (List Code)} {fr : List Env} {base : Heap} {s : Shared} {Q E : Value → Shared → Prop}
theorem init_spec
  {c d : Addr} {n : Int} {tn : Tok} {k : Nat} {R : Result → Shared → Prop}
  (X : (Mine.heapK w.params).In base) (T : Top topProg GL mean mg mb base) (hS : base.StaysIn s.heap)
  (hc : s.heap.get? c = some (accObj d [] k)) (hd : s.heap.get? d = some (dictOf [] 0)) (hbc : base.get? c = none) (hbd : base.get? d = none) (hdc : @LT.lt Nat _ d c)
  (hdp : dp < 900) (hu : un < 1000)
  (ret : ∀ h' tk' hh tk, Keep [c, d] s.heap h' → h'.get? c = some (accObj d [] k) → h'.get? d = some (dictOf (iniE hh tk n tn) 1) → R (.ok (.ret .none)) { s with heap := h', toks := tk' }) :
  codeAny (model PySem.Challenge.rw_ik0220_02.row.prog w) (amb dp un gd fr) (.call (.ref 115) ⟨[.ref c, .int n tn], []⟩) R s := by
  revert X; k_fill; intro X
  have XS := X.keeps hS
  k_dflt (refine' enterS [(Str.ofString "initial_size", .int n tn), (Str.ofString "self", .ref c)] [(c, accObj d [] k), (d, dictOf [] 0)] ?kX ?kT hS ?kD ?kho ?khcd ?kroom ?kb ?kl ?kr ?_ ?c1 ?c2 ?c3 ?c4; (
  (case kX => assumption); (case kT => assumption); (case kho => k_is); (case khcd => k_is); (case kb => first | exact BindsTo.of_eq rfl | exact binds_K (by k_in) rfl (by k_is) rfl rfl rfl);
  (case kl => exact locs rfl); (case kr => exact rfl); (case c1 => exact rfl); (case c2 => exact rfl); (case c3 => exact rfl); (case c4 => first | decide | exact fun _ => rfl); (case kroom => first | exact rm0 hdp rfl | (simp only [recursionLimit]; omega))); (case kD => intro q hq; rcases List.mem_cons.mp hq with rfl | hq; exact ⟨hc, hbc⟩; rcases List.mem_singleton.mp hq with rfl; exact ⟨hd, hbd⟩))
  intro g L h1 tk F N X1 T1 KP LT
  clear XS
  (repeat' (first | (with_reducible show wpAny _ _ (setAttr (Value.ref _) _ _) _ _ _); k_dflt (refine' setL (by k_asm) (by k_asm) (by k_asm) (by exact accInst (by k_asm) (by k_mem) (by k_mem)) (by exact rfl) (by k_is) (by kernel_rfl) (by k_is) (by k_is) (by k_get) (by k_put) (by k_upd) (by exact Nat.le_of_ble_eq_true rfl) ?_); intro _ _ _; (try k_sweep) | (with_reducible show wpAny _ _ (getAttr (Value.ref _) _ _) _ _ _); k_dflt (refine' get_ownL (by k_asm) (by k_asm) (by k_inst) (by k_is) (by k_is) (by k_is) (by k_is) (by k_is) (by k_is) (by k_get) (by k_handed) ?_) | (fail_if_success fail_if_success k_unfold); (first | with_reducible refine (?_ : wpAny _ _ _ _ _ _) | k_unfold); try dsimp only | (with_reducible show wpAny _ _ (storeName _ _ _) _ _ _); (try dsimp only); walk1 | (with_reducible show PySem.wpAt _ _ _ _ _ _ _); walk_at "wpAt" | (fail_if_success with_reducible refine Stop.go (by constructor) ?_); first | walk1 | dsimp only; walk1))
  rename_i so h3 F3 N3 l3
  k_dflt (refine' sup_method d_init F3 X1 N3 (.head _) ?kI ?k1 ?k2 ?k3 ?k4 ?_; (case kI => k_inst); (case k1 => k_is); (case k2 => ks_is); (case k3 => k_is); (case k4 => decide))
  intro q h4 F4 N4 l4
  have l5 := allLt_of l4
  simp only [AllLt] at l5
  refine bnd_callWith0 (by decide) (by decide) (N4 _ (.head _)).1 ?_
  refine init_bnd F4 N4 (N4 _ (.head _)).1 (N4 _ (.tail _ (.tail _ (.head _)))).1 rfl rfl (by k_upd) ?_
  intro h5 F5 N5
  (repeat' (first | (with_reducible show wpAny _ _ (setAttr (Value.ref _) _ _) _ _ _); k_dflt (refine' setL (by k_asm) (by k_asm) (by k_asm) (by exact accInst (by k_asm) (by k_mem) (by k_mem)) (by exact rfl) (by k_is) (by kernel_rfl) (by k_is) (by k_is) (by k_get) (by k_put) (by k_upd) (by exact Nat.le_of_ble_eq_true rfl) ?_); intro _ _ _; (try k_sweep) | (with_reducible show wpAny _ _ (getAttr (Value.ref _) _ _) _ _ _); k_dflt (refine' get_ownL (by k_asm) (by k_asm) (by k_inst) (by k_is) (by k_is) (by k_is) (by k_is) (by k_is) (by k_is) (by k_get) (by k_handed) ?_) | (fail_if_success fail_if_success k_unfold); (first | with_reducible refine (?_ : wpAny _ _ _ _ _ _) | k_unfold); try dsimp only | (with_reducible show wpAny _ _ (storeName _ _ _) _ _ _); (try dsimp only); walk1 | (with_reducible show PySem.wpAt _ _ _ _ _ _ _); walk_at "wpAt" | (fail_if_success with_reducible refine Stop.go (by constructor) ?_); first | walk1 | dsimp only; walk1))
  have KX : Keep [c, d] s.heap h5 := keep_of (D := [(c, accObj d [] k), (d, dictOf [] 0)]) (fun q hq => by rcases List.mem_cons.mp hq with rfl | hq; exact hc; rw [List.mem_singleton.mp hq]; exact hd) KP F5.keep (fun q hq hn => by
    rcases List.mem_cons.mp hq with rfl | hq
    · simp at hn
    · rw [List.mem_singleton.mp hq] at hn; simp at hn)
  exact ret h5 _ _ _ KX (N5 _ (.tail _ (.tail _ (.head _)))).1 (N5 _ (.tail _ (.tail _ (.tail _ (.head _))))).1

end
section
variable {w : World} {mg mb : Str → Option Value} {mean : ExcName → Option Value} {dp un : Nat} {gd : Option (List Code)} {fr : List Env} {base : Heap} {s : Shared} {Q E : Value → Shared → Prop}
theorem push_code
  {c d : Addr} {vs : List Value} {f x : Value} {hh : Int} {n : Int} {tk0 tn : Tok} {k : Nat} {R : Result → Shared → Prop}
  (X : (Mine.heapK w.params).In base) (T : Top topProg GL mean mg mb base) (hS : base.StaysIn s.heap)
  (hc : s.heap.get? c = some (accObj d vs k)) (hd : s.heap.get? d = some (dictOf (iniE hh tk0 n tn) 1)) (hbc : base.get? c = none) (hbd : base.get? d = none) (hdc : @LT.lt Nat _ d c) (hz : vs.length < 1000000)
  (hdp : dp < 900) (hu : un < 1000)
  (ret : ∀ h' tk' T, Keep [c] s.heap h' → h'.get? c = some (accObj d (vs ++ [.ref T]) (k + 1)) → h'.get? T = some (tupOf [f, x] 0) → R (.ok (.ret .none)) { s with heap := h', toks := tk' }) :
  codeAny (model PySem.Challenge.rw_ik0220_02.row.prog w) (amb dp un gd fr) (.call (.ref 122) ⟨[.ref c, f, x], []⟩) R s := by
  revert X; k_fill; intro X
  k_dflt (refine' enterF [(Str.ofString "string", x), (Str.ofString "fws", f), (Str.ofString "self", .ref c)] [(c, accObj d vs k), (d, dictOf (iniE hh tk0 n tn) 1)] ?kX ?kT hS ?kD ?kho ?khcd ?kroom ?kb ?kl ?kr ?_ ?c1 ?c2 ?c3 ?c4; (
  (case kX => assumption); (case kT => assumption); (case kho => k_is); (case khcd => k_is); (case kb => first | exact BindsTo.of_eq rfl | exact binds_K (by k_in) rfl (by k_is) rfl rfl rfl);
  (case kl => exact locs rfl); (case kr => exact rfl); (case c1 => exact rfl); (case c2 => exact rfl); (case c3 => exact rfl); (case c4 => first | decide | exact fun _ => rfl); (case kroom => first | exact rm0 hdp rfl | (simp only [recursionLimit]; omega))); (case kD => intro q hq; rcases List.mem_cons.mp hq with rfl | hq; exact ⟨hc, hbc⟩; rcases List.mem_singleton.mp hq with rfl; exact ⟨hd, hbd⟩))
  intro g L h1 fr' tk F N X1 T1 KP LT
  refine (let aA := _; let eN := _; let qk := _; let ek := _; (?_ : wpAny _ aA (execs _ eN) qk ek _))
  (repeat' (first | (with_reducible show wpAny _ _ (getMethod (Value.ref _) _ _) _ _ _); k_dflt (refine' method_bi (by k_in) (by k_inst) (by k_is) (by k_is) (by k_is) ty_append (by exact rfl) ?_) | (fail_if_success fail_if_success k_unfold); (first | with_reducible refine (?_ : wpAny _ _ _ _ _ _) | k_unfold); try dsimp only | (with_reducible show wpAny _ _ (storeName _ _ _) _ _ _); (try dsimp only); walk1 | (fail_if_success with_reducible refine Stop.go (by constructor) ?_); first | walk1 | dsimp only; walk1))
  rename_i T h2 F2 N2 l2
  k_dflt (refine' append_bi F2 X1 N2 ?kI ?k1 rfl rfl (by k_upd) hz ?_; (case kI => k_inst); (case k1 => k_is))
  intro h3 F3 N3
  (repeat' (first | (with_reducible show wpAny _ _ (getMethod (Value.ref _) _ _) _ _ _); k_dflt (refine' method_bi (by k_in) (by k_inst) (by k_is) (by k_is) (by k_is) ty_append (by exact rfl) ?_) | (fail_if_success fail_if_success k_unfold); (first | with_reducible refine (?_ : wpAny _ _ _ _ _ _) | k_unfold); try dsimp only | (with_reducible show wpAny _ _ (storeName _ _ _) _ _ _); (try dsimp only); walk1 | (fail_if_success with_reducible refine Stop.go (by constructor) ?_); first | walk1 | dsimp only; walk1))
  refine ret h3 _ T (keep_of (D := [(c, accObj d vs k), (d, dictOf (iniE hh tk0 n tn) 1)]) (fun q hq => by rcases List.mem_cons.mp hq with rfl | hq; exact hc; rw [List.mem_singleton.mp hq]; exact hd) KP F3.keep (fun q hq hn => ?_)) ?_ ?_
  · rcases List.mem_cons.mp hq with rfl | hq
    · simp at hn
    · rw [List.mem_singleton.mp hq]; exact (N3 _ (.tail _ (.tail _ (.head _)))).1
  · have z := (N3 _ (.tail _ (.head _))).1
    simpa [Obj.mapSeq] using z
  · exact (N3 _ (.head _)).1
theorem push_spec
  {c d : Addr} {vs : List Value} {f x : Value} {hh : Int} {n : Int} {tk0 tn : Tok} {k : Nat}
  (X : (Mine.heapK w.params).In base) (T : Top topProg GL mean mg mb base) (hS : base.StaysIn s.heap)
  (hc : s.heap.get? c = some (accObj d vs k)) (hd : s.heap.get? d = some (dictOf (iniE hh tk0 n tn) 1)) (hbc : base.get? c = none) (hbd : base.get? d = none) (hdc : @LT.lt Nat _ d c) (hz : vs.length < 1000000)
  (hdp : dp < 900) (hu : un < 1000)
  (ret : ∀ h' tk' T, Keep [c] s.heap h' → h'.get? c = some (accObj d (vs ++ [.ref T]) (k + 1)) → h'.get? T = some (tupOf [f, x] 0) → Q .none { s with heap := h', toks := tk' }) :
  wpAny (model PySem.Challenge.rw_ik0220_02.row.prog w) (amb dp un gd fr) (call (.ref 122) [.ref c, f, x]) Q E s :=
  wpAny_call (push_code X T hS hc hd hbc hbd hdc hz hdp hu ret)

end
section
variable {w : World} {mg mb : Str → Option Value} {mean : ExcName → Option Value} {dp un : Nat} {gd : Option (List Code)} {fr : List Env} {base : Heap} {s : Shared} {Q E : Value → Shared → Prop}
theorem pop_spec
  {c d : Addr} {vs : List Value} {hh : Int} {n : Int} {tk0 tn : Tok} {k : Nat}
  (X : (Mine.heapK w.params).In base) (T : Top topProg GL mean mg mb base) (hS : base.StaysIn s.heap)
  (hc : s.heap.get? c = some (accObj d vs k)) (hd : s.heap.get? d = some (dictOf (iniE hh tk0 n tn) 1)) (hbc : base.get? c = none) (hbd : base.get? d = none) (hdc : @LT.lt Nat _ d c) (hz : vs.length < 1000000)
  (hdp : dp < 800) (hu : un < 900)
  (ret0 : vs = [] → ∀ h' tk' T t1 t2, Keep [] s.heap h' → h'.get? T = some (tupOf [.str (Str.ofString "") t1, .str (Str.ofString "") t2] 0) → Q (.ref T) { s with heap := h', toks := tk' })
  (ret1 : ∀ vs' v, vs = vs' ++ [v] → ∀ h' tk', Keep [c] s.heap h' → h'.get? c = some (accObj d vs' (k + 1)) → Q v { s with heap := h', toks := tk' }) :
  wpAny (model PySem.Challenge.rw_ik0220_02.row.prog w) (amb dp un gd fr) (call (.ref 138) [.ref c]) Q E s := by
  revert X; k_fill; intro X
  refine wpAny_call ?_
  k_dflt (refine' enterS [(Str.ofString "self", .ref c)] [(c, accObj d vs k), (d, dictOf (iniE hh tk0 n tn) 1)] ?kX ?kT hS ?kD ?kho ?khcd ?kroom ?kb ?kl ?kr ?_ ?c1 ?c2 ?c3 ?c4; (
  (case kX => assumption); (case kT => assumption); (case kho => k_is); (case khcd => k_is); (case kb => first | exact BindsTo.of_eq rfl | exact binds_K (by k_in) rfl (by k_is) rfl rfl rfl);
  (case kl => exact locs rfl); (case kr => exact rfl); (case c1 => exact rfl); (case c2 => exact rfl); (case c3 => exact rfl); (case c4 => first | decide | exact fun _ => rfl); (case kroom => first | exact rm0 hdp rfl | (simp only [recursionLimit]; omega))); (case kD => intro q hq; rcases List.mem_cons.mp hq with rfl | hq; exact ⟨hc, hbc⟩; rcases List.mem_singleton.mp hq with rfl; exact ⟨hd, hbd⟩))
  intro g L h1 tk F N X1 T1 KP LT
  (repeat' (first | (with_reducible show wpAny _ _ (setAttr (Value.ref _) _ _) _ _ _); k_dflt (refine' setL (by k_asm) (by k_asm) (by k_asm) (by exact accInst (by k_asm) (by k_mem) (by k_mem)) (by exact rfl) (by k_is) (by kernel_rfl) (by k_is) (by k_is) (by k_get) (by k_put) (by k_upd) (by exact Nat.le_of_ble_eq_true rfl) ?_); intro _ _ _; (try k_sweep) | (with_reducible show wpAny _ _ (getAttr (Value.ref _) _ _) _ _ _); k_dflt (refine' get_ownL (by k_asm) (by k_asm) (by k_inst) (by k_is) (by k_is) (by k_is) (by k_is) (by k_is) (by k_is) (by k_get) (by k_handed) ?_) | (fail_if_success fail_if_success k_unfold); (first | with_reducible refine (?_ : wpAny _ _ _ _ _ _) | k_unfold); try dsimp only | (with_reducible show wpAny _ _ (storeName _ _ _) _ _ _); (try dsimp only); walk1 | (with_reducible show PySem.wpAt _ _ _ _ _ _ _); walk_at "wpAt" | (fail_if_success with_reducible refine Stop.go (by constructor) ?_); first | walk1 | dsimp only; walk1))
  try dsimp only
  refine part_count_spec X1 T1 F.keep (N _ (.head _)).1 (N _ (.tail _ (.head _))).1 (N _ (.head _)).2.2 (N _ (.tail _ (.head _))).2.2 (by (clear hdc hz; omega)) (by (clear hdc hz hdp; omega)) fun t2 h2 tk2 k2 => ?_
  have F2 := F.keeps k2.nil
  have N2 := N.grown k2.nil
  clear F N
  (repeat' (first | (with_reducible show wpAny _ _ (setAttr (Value.ref _) _ _) _ _ _); k_dflt (refine' setL (by k_asm) (by k_asm) (by k_asm) (by exact accInst (by k_asm) (by k_mem) (by k_mem)) (by exact rfl) (by k_is) (by kernel_rfl) (by k_is) (by k_is) (by k_get) (by k_put) (by k_upd) (by exact Nat.le_of_ble_eq_true rfl) ?_); intro _ _ _; (try k_sweep) | (with_reducible show wpAny _ _ (getAttr (Value.ref _) _ _) _ _ _); k_dflt (refine' get_ownL (by k_asm) (by k_asm) (by k_inst) (by k_is) (by k_is) (by k_is) (by k_is) (by k_is) (by k_is) (by k_get) (by k_handed) ?_) | (fail_if_success fail_if_success k_unfold); (first | with_reducible refine (?_ : wpAny _ _ _ _ _ _) | k_unfold); try dsimp only | (with_reducible show wpAny _ _ (storeName _ _ _) _ _ _); (try dsimp only); walk1 | (with_reducible show PySem.wpAt _ _ _ _ _ _ _); walk_at "wpAt" | (fail_if_success with_reducible show wpAny _ _ (getMethod (Value.ref _) _ _) _ _ _); (fail_if_success with_reducible refine Stop.go (by constructor) ?_); first | walk1 | dsimp only; walk1))
  · rename_i e0 T h3 F3 N3 l3
    have ev : vs = [] := List.length_eq_zero_iff.mp (by (clear hdc hz hdp l3; lia))
    exact ret0 ev h3 _ T _ _ (keep2 hc hd KP F3.keep (fun _ => (N3 _ (.tail _ (.head _))).1) fun _ => (N3 _ (.tail _ (.tail _ (.head _)))).1) (N3 _ (.head _)).1
  · rename_i e0 so h3 F3 N3 l3
    obtain ⟨vs', v, rfl⟩ := snoc_of (vs := vs) (fun q => by subst q; simp at e0)
    k_dflt (refine' sup_method d_pop F3 X1 N3 (.head _) ?kI ?k1 ?k2 ?k3 ?k4 ?_; (case kI => k_inst); (case k1 => k_is); (case k2 => ks_is); (case k3 => k_is); (case k4 => decide))
    intro q h4 F4 N4 l4
    have l5 := allLt_of l4
    simp only [AllLt] at l5
    refine bnd_callWith0 (by decide) (by decide) (N4 _ (.head _)).1 ?_
    k_dflt (refine' pop_bnd F4 X1 N4 (N4 _ (.head _)).1 ?kI ?k1 ?k2 rfl rfl (by k_upd) ?kz ?_; (case kI => k_inst); (case k1 => k_is); (case k2 => k_is); (case kz => simp at hz; (clear hdc hdp l3 e0 l5; lia)))
    intro h5 F5 N5
    (repeat' (first | (with_reducible show wpAny _ _ (setAttr (Value.ref _) _ _) _ _ _); k_dflt (refine' setL (by k_asm) (by k_asm) (by k_asm) (by exact accInst (by k_asm) (by k_mem) (by k_mem)) (by exact rfl) (by k_is) (by kernel_rfl) (by k_is) (by k_is) (by k_get) (by k_put) (by k_upd) (by exact Nat.le_of_ble_eq_true rfl) ?_); intro _ _ _; (try k_sweep) | (with_reducible show wpAny _ _ (getAttr (Value.ref _) _ _) _ _ _); k_dflt (refine' get_ownL (by k_asm) (by k_asm) (by k_inst) (by k_is) (by k_is) (by k_is) (by k_is) (by k_is) (by k_is) (by k_get) (by k_handed) ?_) | (fail_if_success fail_if_success k_unfold); (first | with_reducible refine (?_ : wpAny _ _ _ _ _ _) | k_unfold); try dsimp only | (with_reducible show wpAny _ _ (storeName _ _ _) _ _ _); (try dsimp only); walk1 | (with_reducible show PySem.wpAt _ _ _ _ _ _ _); walk_at "wpAt" | (fail_if_success with_reducible refine Stop.go (by constructor) ?_); first | walk1 | dsimp only; walk1))
    refine ret1 vs' v rfl h5 _ (keep2 hc hd KP F5.keep (fun q => absurd List.mem_cons_self q) fun _ => (N5 _ (.tail _ (.tail _ (.tail _ (.head _))))).1) ?_
    have z := (N5 _ (.tail _ (.tail _ (.head _)))).1
    simpa [Obj.mapSeq] using z

end
section
variable {w : World} {mg mb : Str → Option Value} {mean : ExcName → Option Value} {dp un : Nat} {gd : Option (List Code)} {fr : List Env} {base : Heap} {s : Shared} {Q E : Value → Shared → Prop}
theorem len_spec
  {c d : Addr} {vs : List Value} {cs : List (Str × Str)} {hh : Int} {n : Int} {tk0 tn : Tok} {k : Nat} {ps : Array Value}
  (X : (Mine.heapK w.params).In base) (T : Top topProg GL mean mg mb base) (hS : base.StaysIn s.heap)
  (hc : s.heap.get? c = some (accObj d vs k)) (hd : s.heap.get? d = some (dictOf (iniE hh tk0 n tn) 1)) (hbc : base.get? c = none) (hbd : base.get? d = none) (hdc : @LT.lt Nat _ d c) (hlow : @LT.lt Nat _ 300 d)
  (hp : s.heap.get? 140 = some (tabObj ps)) (hbp : base.get? 140 = none) (ht : TabOk posLen ps) (G : AllBare s.gens)
  (hA : AllAt (TupAt s.heap) vs (cs.map ckd)) (hb : tlen cs ≤ 1000000) (hn : 0 ≤ n ∧ n ≤ 1000000)
  (hdp : dp < 800) (hu : un < 900)
  (ret : ∀ t h' g' tk' ps', Keep [140] s.heap h' → h'.get? 140 = some (tabObj ps') → TabOk posLen ps' → AllBare g' → Q (.int (n + tlen cs) t) { s with heap := h', gens := g', toks := tk' }) :
  wpAny (model PySem.Challenge.rw_ik0220_02.row.prog w) (amb dp un gd fr) (call (.ref 145) [.ref c]) Q E s := by
  revert X; k_fill; intro X
  refine wpAny_call ?_
  k_dflt (refine' enterF [(Str.ofString "self", .ref c)] [(140, tabObj ps), (c, accObj d vs k), (d, dictOf (iniE hh tk0 n tn) 1)] ?kX ?kT hS ?kD ?kho ?khcd ?kroom ?kb ?kl ?kr ?_ ?c1 ?c2 ?c3 ?c4; (
  (case kX => assumption); (case kT => assumption); (case kho => k_is); (case khcd => k_is); (case kb => first | exact BindsTo.of_eq rfl | exact binds_K (by k_in) rfl (by k_is) rfl rfl rfl);
  (case kl => exact locs rfl); (case kr => exact rfl); (case c1 => exact rfl); (case c2 => exact rfl); (case c3 => exact rfl); (case c4 => first | decide | exact fun _ => rfl); (case kroom => first | exact rm0 hdp rfl | (simp only [recursionLimit]; omega))); (case kD => intro q hq; rcases List.mem_cons.mp hq with rfl | hq; exact ⟨hp, hbp⟩; rcases List.mem_cons.mp hq with rfl | hq; exact ⟨hc, hbc⟩; rcases List.mem_singleton.mp hq with rfl; exact ⟨hd, hbd⟩))
  intro g L h1 fr' tk F N X1 T1 KP LTs
  refine (let aA := _; let eN := _; let qk := _; let ek := _; (?_ : wpAny _ aA (execs _ eN) qk ek _))
  have HC : CodeHd g 144 140 := codeHd_of_K X1 (by kernel_rfl)
  have hAg : AllAt (TupAt g) vs (cs.map ckd) := hA.mono fun v d' z => z.kept KP fun b hb o ho => by
    simp at hb
    rcases hb with rfl | rfl | rfl
    · rw [hp] at ho; cases ho; simp
    · rw [hc] at ho; cases ho; simp
    · rw [hd] at ho; cases ho; simp
  obtain ⟨Ts, ta, tb, hch⟩ := choose_ck (hAg.mono fun _ _ z => z.keeps F.keep)
  have hvl : vs.length = cs.length := by simpa using hA.length
  have hlt : @LT.lt Nat _ 140 d := by (clear hdc hb hn hdp hvl; lia)
  (repeat' (first | (with_reducible show wpAny _ _ (setAttr (Value.ref _) _ _) _ _ _); k_dflt (refine' setL (by k_asm) (by k_asm) (by k_asm) (by exact accInst (by k_asm) (by k_mem) (by k_mem)) (by exact rfl) (by k_is) (by kernel_rfl) (by k_is) (by k_is) (by k_get) (by k_put) (by k_upd) (by exact Nat.le_of_ble_eq_true rfl) ?_); intro _ _ _; (try k_sweep) | (with_reducible show wpAny _ _ (getAttr (Value.ref _) _ _) _ _ _); k_dflt (refine' get_ownL (by k_asm) (by k_asm) (by k_inst) (by k_is) (by k_is) (by k_is) (by k_is) (by k_is) (by k_is) (by k_get) (by k_handed) ?_) | (fail_if_success with_reducible refine Nf.go (by constructor) ?_); (fail_if_success fail_if_success with_reducible refine Fd.go (by constructor) ?_; k_fold); refine (let qk := _; let ek := _; (?_ : wpAny _ _ _ qk ek _)) | (fail_if_success fail_if_success k_unfold); (first | with_reducible refine (?_ : wpAny _ _ _ _ _ _) | k_unfold); (try dsimp only); try clear qk ek | (fail_if_success with_reducible refine Stop.go (by constructor) ?_); first | walk1 | dsimp only; walk1))
  refine genT (x := c) (P := 140) (items := vs.toArray) (Ts := Ts) (va := fun j => .str ((cs[j]?).getD (Str.ofString "", Str.ofString "")).1 (ta j)) (vb := fun j => .str ((cs[j]?).getD (Str.ofString "", Str.ofString "")).2 (tb j)) (Fv := fun i y => ∃ t, y = .int ((cs.map clen).getD i 0) t)
    F N ?hnP G T1 HC ht ?hev ?hit ⟨_, _, (N _ (.tail _ (.head _))).1, rfl⟩ ?hxP ?hat ?htup ?helt ?hk (hroom := by simp only [recursionLimit]; (clear hdc hlow hb hn hvl hlt; omega))
  case hnP => intro q hq; simp at hq; rcases hq with rfl | rfl <;> (show @Ne Nat _ _; (clear hb hn hdp hvl hlt; lia))
  case hev => intro Q' h; (repeat' (first | (with_reducible show wpAny _ _ (setAttr (Value.ref _) _ _) _ _ _); k_dflt (refine' setL (by k_asm) (by k_asm) (by k_asm) (by exact accInst (by k_asm) (by k_mem) (by k_mem)) (by exact rfl) (by k_is) (by kernel_rfl) (by k_is) (by k_is) (by k_get) (by k_put) (by k_upd) (by exact Nat.le_of_ble_eq_true rfl) ?_); intro _ _ _; (try k_sweep) | (with_reducible show wpAny _ _ (getAttr (Value.ref _) _ _) _ _ _); k_dflt (refine' get_ownL (by k_asm) (by k_asm) (by k_inst) (by k_is) (by k_is) (by k_is) (by k_is) (by k_is) (by k_is) (by k_get) (by k_handed) ?_) | (fail_if_success with_reducible refine Nf.go (by constructor) ?_); (fail_if_success fail_if_success with_reducible refine Fd.go (by constructor) ?_; k_fold); refine (let qk := _; let ek := _; (?_ : wpAny _ _ _ qk ek _)) | (fail_if_success fail_if_success k_unfold); (first | with_reducible refine (?_ : wpAny _ _ _ _ _ _) | k_unfold); (try dsimp only); try clear qk ek | (fail_if_success with_reducible refine Stop.go (by constructor) ?_); first | walk1 | dsimp only; walk1)); exact h
  case hit =>
    intro Q' h
    k_dflt (refine' iter_inst (X1.keeps F.keep) ?kI ?k1 ?k2 h; (case kI => k_inst); (case k1 => k_is); (case k2 => k_is))
  case hxP => show @Ne Nat _ _; (clear hb hn hdp hvl hlt; lia)
  case hat =>
    intro j hj
    simp at hj
    have hj' : j < cs.length := by (clear hdc hlow hb hn hdp hlt; lia)
    have := (hch j _ (List.getElem?_eq_getElem hj')).1
    simpa using this
  case htup =>
    intro j hj
    simp at hj
    have hj' : j < cs.length := by (clear hdc hlow hb hn hdp hlt; omega)
    have := (hch j _ (List.getElem?_eq_getElem hj')).2
    simpa [List.getElem?_eq_getElem hj'] using this
  case helt =>
    intro c' C t m₂ i E' A' hA1 hA2 hA3 hi F9 hma hmb
    clear F N hch hA1 hA2 hA3
    simp at hi
    have hi' : i < cs.length := by (clear hdc hlow hb hn hdp hlt; omega)
    have hce : cs[i]? = some cs[i] := List.getElem?_eq_getElem hi'
    rw [hce, Option.getD_some] at hma hmb
    have hle := clen_le (List.getElem_mem hi')
    have hcl : (cs.map clen).getD i 0 = clen cs[i] := by simp [List.getD_eq_getElem?_getD, hi']
    rw [hcl]
    generalize cs[i] = p0 at hma hmb hle
    have F10 := toKF [(Str.ofString "fws", .str p0.1 (ta i)), (Str.ofString "part", .str p0.2 (tb i))] F9 ⟨hma, hmb, trivial⟩
    clear F9 hma hmb
    have N10 : News g C t.heap [] := News.nil
    unfold clen at hle
    clear ret hc hd hbc hbd hdc hlow hp hbp ht G hA hAg HC KP LTs ek qk X T hS hvl hlt
    (repeat' (first | (with_reducible show wpAny _ _ (eval (Expr.Name _ _) (genEnv _ _ _ _ _ _)) _ _ _); k_dflt (first | (refine' ldVarG (by k_asm) ?v ?_ (by rfl) (by rfl) (by decide); (case v => rfl)) | (refine' genK (by k_asm) (by k_asm) (by exact topRead_of (by k_asm)) (by k_is) ?_ (by rfl) (by rfl) (by rfl) (by decide)) | (refine' genB (by k_asm) (by k_asm) (by exact topRead_of (by k_asm)) (by k_is) (by boot_fast) (by decide) ?_ (by rfl) (by rfl) (by rfl) (by decide))) | (fail_if_success fail_if_success k_unfold); (first | with_reducible refine (?_ : wpAny _ _ _ _ _ _) | k_unfold); try dsimp only | (with_reducible show wpAny _ _ (storeName _ _ _) _ _ _); (try dsimp only); walk1 | (fail_if_success with_reducible refine Stop.go (by constructor) ?_); first | walk1 | dsimp only; walk1))
    exact ⟨_, _, rfl, fun _ _ e => e⟩
  case hk =>
    intro a h2 g2 tk2 ps2 F2 N2 ht2 G2 K2 z2 X2
    have kg1 : ∀ b o, g.get? b = some o → b ≠ 140 ∧ h1.get? b = some o := fun b o e => ⟨fun q => ne_none e (by rw [q]; exact (N _ (.head _)).2.2), F.keep b o e⟩
    have zc := Heap.lt_size (N _ (.tail _ (.head _))).1
    have zd := Heap.lt_size (N _ (.tail _ (.tail _ (.head _)))).1
    have zp := Heap.lt_size (N _ (.head _)).1
    clear F N hch
    (repeat' (first | (with_reducible show wpAny _ _ (setAttr (Value.ref _) _ _) _ _ _); k_dflt (refine' setL (by k_asm) (by k_asm) (by k_asm) (by exact accInst (by k_asm) (by k_mem) (by k_mem)) (by exact rfl) (by k_is) (by kernel_rfl) (by k_is) (by k_is) (by k_get) (by k_put) (by k_upd) (by exact Nat.le_of_ble_eq_true rfl) ?_); intro _ _ _; (try k_sweep) | (with_reducible show wpAny _ _ (getAttr (Value.ref _) _ _) _ _ _); k_dflt (refine' get_ownL (by k_asm) (by k_asm) (by k_inst) (by k_is) (by k_is) (by k_is) (by k_is) (by k_is) (by k_is) (by k_get) (by k_handed) ?_) | (fail_if_success with_reducible refine Nf.go (by constructor) ?_); (fail_if_success fail_if_success with_reducible refine Fd.go (by constructor) ?_; k_fold); refine (let qk := _; let ek := _; (?_ : wpAny _ _ _ qk ek _)) | (fail_if_success fail_if_success k_unfold); (first | with_reducible refine (?_ : wpAny _ _ _ _ _ _) | k_unfold); (try dsimp only); try clear qk ek | (fail_if_success with_reducible refine Stop.go (by constructor) ?_); first | walk1 | dsimp only; walk1))
    refine sum_gen (X2.toks (Nat.le_succ _)) G2 (fun i => (cs.map clen).getD i 0) (fun j v h => h) ⟨by (clear hdc hlow hb hdp hvl hlt z2 zc zd zp; lia), by (clear hdc hlow hb hdp hvl hlt z2 zc zd zp; omega)⟩ (fun j hj => ?_) fun h3 g3 tk3 t3 G3 K3 => ?_
    · rw [preSum_ck]
      have h9 := take_le cs (j + 1)
      have h8 : 0 ≤ (cs.map clen).getD j 0 ∧ (cs.map clen).getD j 0 ≤ tlen cs := by
        simp at hj
        have hj' : j < cs.length := by (clear hdc hlow hb hn hdp hlt z2 zc zd zp h9; omega)
        have := clen_le (List.getElem_mem hj')
        have := clen_nn cs[j]
        simp [List.getD_eq_getElem?_getD, hj']
        (clear hdc hlow hb hn hdp hvl hlt z2 zc zd zp h9 hj; lia)
      exact ⟨⟨by (clear hdc hlow hb hn hdp hvl hlt z2 zc zd zp hj h9; lia), by (clear hdc hlow hn hdp hvl hlt z2 zc zd zp hj h9; omega)⟩, by (clear hdc hlow hdp hvl hlt z2 zc zd zp hj h8; lia), by (clear hdc hlow hdp hvl hlt z2 zc zd zp hj h8; omega)⟩
    · rw [preSum_ck]
      have e9 : ((cs.map clen).take vs.toArray.size).sum = tlen cs := by
        rw [List.take_of_length_le (by simp; (clear hdc hlow hb hn hdp hlt z2 zc zd zp; lia))]; rfl
      rw [e9]
      refine ret t3 h3 g3 tk3 ps2 (keep3 hp hc hd KP (fun b o e => K3 b o (Heap.lt_size (kg1 b o e).2) (K2 b o (kg1 b o e).1 (kg1 b o e).2)) (fun q => absurd List.mem_cons_self q) (fun _ => K3 _ _ zc (N2 _ (.tail _ (.head _))).1) fun _ => K3 _ _ zd (N2 _ (.tail _ (.tail _ (.head _)))).1)
        (K3 _ _ zp (N2 _ (.head _)).1) ht2 G3

end
section
variable {w : World} {mg mb : Str → Option Value} {mean : ExcName → Option Value} {dp un : Nat} {gd : Option (List Code)} {fr : List Env} {base : Heap} {s : Shared} {Q E : Value → Shared → Prop}
theorem str_spec
  {c d : Addr} {vs : List Value} {cs : List (Str × Str)} {hh : Int} {n : Int} {tk0 tn : Tok} {k : Nat} {ps : Array Value}
  (X : (Mine.heapK w.params).In base) (T : Top topProg GL mean mg mb base) (hS : base.StaysIn s.heap)
  (hc : s.heap.get? c = some (accObj d vs k)) (hd : s.heap.get? d = some (dictOf (iniE hh tk0 n tn) 1)) (hbc : base.get? c = none) (hbd : base.get? d = none) (hdc : @LT.lt Nat _ d c) (hlow : @LT.lt Nat _ 300 d) (hz : vs.length < 1000000)
  (hp : s.heap.get? 147 = some (tabObj ps)) (hbp : base.get? 147 = none) (ht : TabOk posStr ps) (G : AllBare s.gens)
  (hA : AllAt (TupAt s.heap) vs (cs.map ckd)) (hb : tlen cs ≤ 1000000) (hn : 0 ≤ n ∧ n ≤ 1000000)
  (hdp : dp < 800) (hu : un < 900)
  (ret : ∀ t h' g' tk' ps', Keep [147] s.heap h' → h'.get? 147 = some (tabObj ps') → TabOk posStr ps' → AllBare g' → Q (.str (ctxt cs) t) { s with heap := h', gens := g', toks := tk' }) :
  wpAny (model PySem.Challenge.rw_ik0220_02.row.prog w) (amb dp un gd fr) (call (.ref 152) [.ref c]) Q E s := by
  revert X; k_fill; intro X
  refine wpAny_call ?_
  k_dflt (refine' enterF [(Str.ofString "self", .ref c)] [(147, tabObj ps), (c, accObj d vs k), (d, dictOf (iniE hh tk0 n tn) 1)] ?kX ?kT hS ?kD ?kho ?khcd ?kroom ?kb ?kl ?kr ?_ ?c1 ?c2 ?c3 ?c4; (
  (case kX => assumption); (case kT => assumption); (case kho => k_is); (case khcd => k_is); (case kb => first | exact BindsTo.of_eq rfl | exact binds_K (by k_in) rfl (by k_is) rfl rfl rfl);
  (case kl => exact locs rfl); (case kr => exact rfl); (case c1 => exact rfl); (case c2 => exact rfl); (case c3 => exact rfl); (case c4 => first | decide | exact fun _ => rfl); (case kroom => first | exact rm0 hdp rfl | (simp only [recursionLimit]; omega))); (case kD => intro q hq; rcases List.mem_cons.mp hq with rfl | hq; exact ⟨hp, hbp⟩; rcases List.mem_cons.mp hq with rfl | hq; exact ⟨hc, hbc⟩; rcases List.mem_singleton.mp hq with rfl; exact ⟨hd, hbd⟩))
  intro g L h1 fr' tk F N X1 T1 KP LTs
  refine (let aA := _; let eN := _; let qk := _; let ek := _; (?_ : wpAny _ aA (execs _ eN) qk ek _))
  have HC : CodeHd g 151 147 := codeHd_of_K X1 (by kernel_rfl)
  have hAg : AllAt (TupAt g) vs (cs.map ckd) := hA.mono fun v d' z => z.kept KP fun b hb o ho => by
    simp at hb
    rcases hb with rfl | rfl | rfl
    · rw [hp] at ho; cases ho; simp
    · rw [hc] at ho; cases ho; simp
    · rw [hd] at ho; cases ho; simp
  obtain ⟨Ts, ta, tb, hch⟩ := choose_ck (hAg.mono fun _ _ z => z.keeps F.keep)
  have hvl : vs.length = cs.length := by simpa using hA.length
  have hlt : @LT.lt Nat _ 147 d := by (clear hdc hz hb hn hdp hvl; lia)
  (repeat' (first | (fail_if_success with_reducible refine Nf.go (by constructor) ?_); (fail_if_success fail_if_success with_reducible refine Fd.go (by constructor) ?_; k_fold); refine (let qk := _; let ek := _; (?_ : wpAny _ _ _ qk ek _)) | (fail_if_success fail_if_success k_unfold); (first | with_reducible refine (?_ : wpAny _ _ _ _ _ _) | k_unfold); (try dsimp only); try clear qk ek | (fail_if_success with_reducible refine Stop.go (by constructor) ?_); first | walk1 | dsimp only; walk1))
  refine genT (x := c) (P := 147) (items := vs.toArray) (Ts := Ts) (va := fun j => .str ((cs[j]?).getD (Str.ofString "", Str.ofString "")).1 (ta j)) (vb := fun j => .str ((cs[j]?).getD (Str.ofString "", Str.ofString "")).2 (tb j)) (Fv := fun i y => ∃ t, y = .str ((cs.map cone).getD i (Str.ofString "")) t)
    F N ?hnP G T1 HC ht ?hev ?hit ⟨_, _, (N _ (.tail _ (.head _))).1, rfl⟩ ?hxP ?hat ?htup ?helt ?hk (hroom := by simp only [recursionLimit]; (clear hdc hlow hz hb hn hvl hlt; omega))
  case hnP => intro q hq; simp at hq; rcases hq with rfl | rfl <;> (show @Ne Nat _ _; (clear hz hb hn hdp hvl hlt; lia))
  case hev => intro Q' h; (repeat' (first | (fail_if_success with_reducible refine Nf.go (by constructor) ?_); (fail_if_success fail_if_success with_reducible refine Fd.go (by constructor) ?_; k_fold); refine (let qk := _; let ek := _; (?_ : wpAny _ _ _ qk ek _)) | (fail_if_success fail_if_success k_unfold); (first | with_reducible refine (?_ : wpAny _ _ _ _ _ _) | k_unfold); (try dsimp only); try clear qk ek | (fail_if_success with_reducible refine Stop.go (by constructor) ?_); first | walk1 | dsimp only; walk1)); exact h
  case hit =>
    intro Q' h
    k_dflt (refine' iter_inst (X1.keeps F.keep) ?kI ?k1 ?k2 h; (case kI => k_inst); (case k1 => k_is); (case k2 => k_is))
  case hxP => show @Ne Nat _ _; (clear hz hb hn hdp hvl hlt; lia)
  case hat =>
    intro j hj
    simp at hj
    have hj' : j < cs.length := by (clear hdc hlow hz hb hn hdp hlt; lia)
    have := (hch j _ (List.getElem?_eq_getElem hj')).1
    simpa using this
  case htup =>
    intro j hj
    simp at hj
    have hj' : j < cs.length := by (clear hdc hlow hz hb hn hdp hlt; omega)
    have := (hch j _ (List.getElem?_eq_getElem hj')).2
    simpa [List.getElem?_eq_getElem hj'] using this
  case helt =>
    intro c' C t m₂ i E' A' hA1 hA2 hA3 hi F9 hma hmb
    clear F N hch hA1 hA2 hA3
    simp at hi
    have hi' : i < cs.length := by (clear hdc hlow hz hb hn hdp hlt; omega)
    have hce : cs[i]? = some cs[i] := List.getElem?_eq_getElem hi'
    rw [hce, Option.getD_some] at hma hmb
    have hle := clen_le (List.getElem_mem hi')
    have hcl : (cs.map cone).getD i (Str.ofString "") = cone cs[i] := by simp [List.getD_eq_getElem?_getD, hi']
    rw [hcl]
    generalize cs[i] = p0 at hma hmb hle
    have F10 := toKF [(Str.ofString "fws", .str p0.1 (ta i)), (Str.ofString "part", .str p0.2 (tb i))] F9 ⟨hma, hmb, trivial⟩
    clear F9 hma hmb
    have N10 : News g C t.heap [] := News.nil
    unfold clen at hle
    (repeat' (first | (with_reducible show wpAny _ _ (eval (Expr.Name _ _) (genEnv _ _ _ _ _ _)) _ _ _); k_dflt (first | (refine' ldVarG (by k_asm) ?v ?_ (by rfl) (by rfl) (by decide); (case v => rfl)) | (refine' genK (by k_asm) (by k_asm) (by exact topRead_of (by k_asm)) (by k_is) ?_ (by rfl) (by rfl) (by rfl) (by decide)) | (refine' genB (by k_asm) (by k_asm) (by exact topRead_of (by k_asm)) (by k_is) (by boot_fast) (by decide) ?_ (by rfl) (by rfl) (by rfl) (by decide))) | k_unfold; try dsimp only | (fail_if_success with_reducible show wpAny _ _ (newTuple _) _ _ _); (fail_if_success with_reducible refine Stop.go (by constructor) ?_); first | walk1 | dsimp only; walk1))
    refine wpAny_newTuple ?_ (by simp [sizeLine_eq])
    obtain ⟨F11, N11, l11⟩ := ks_newsPush (s := t) (o := { cls := .type "tuple", data := .seq #[.str p0.1 (ta i), .str p0.2 (tb i)] }) F10 N10 rfl (Heap.get?_push_at rfl rfl) (fun b o e => Heap.get?_push_of_some _ e)
    clear F10 N10
    (repeat' (first | (with_reducible show wpAny _ _ (eval (Expr.Name _ _) (genEnv _ _ _ _ _ _)) _ _ _); k_dflt (first | (refine' ldVarG (by k_asm) ?v ?_ (by rfl) (by rfl) (by decide); (case v => rfl)) | (refine' genK (by k_asm) (by k_asm) (by exact topRead_of (by k_asm)) (by k_is) ?_ (by rfl) (by rfl) (by rfl) (by decide)) | (refine' genB (by k_asm) (by k_asm) (by exact topRead_of (by k_asm)) (by k_is) (by boot_fast) (by decide) ?_ (by rfl) (by rfl) (by rfl) (by decide))) | (fail_if_success fail_if_success k_unfold); (first | with_reducible refine (?_ : wpAny _ _ _ _ _ _) | k_unfold); try dsimp only | (with_reducible show wpAny _ _ (storeName _ _ _) _ _ _); (try dsimp only); walk1 | (fail_if_success with_reducible refine Stop.go (by constructor) ?_); first | walk1 | dsimp only; walk1))
    exact ⟨_, _, rfl, fun _ _ e => Heap.get?_push_of_some _ e⟩
  case hk =>
    intro a h2 g2 tk2 ps2 F2 N2 ht2 G2 K2 z2 X2
    have kg1 : ∀ b o, g.get? b = some o → b ≠ 147 ∧ h1.get? b = some o := fun b o e => ⟨fun q => ne_none e (by rw [q]; exact (N _ (.head _)).2.2), F.keep b o e⟩
    have zc := Heap.lt_size (N _ (.tail _ (.head _))).1
    have zd := Heap.lt_size (N _ (.tail _ (.tail _ (.head _)))).1
    have zp := Heap.lt_size (N _ (.head _)).1
    clear F N hch
    (repeat' (first | (fail_if_success with_reducible refine Nf.go (by constructor) ?_); (fail_if_success fail_if_success with_reducible refine Fd.go (by constructor) ?_; k_fold); refine (let qk := _; let ek := _; (?_ : wpAny _ _ _ qk ek _)) | (fail_if_success fail_if_success k_unfold); (first | with_reducible refine (?_ : wpAny _ _ _ _ _ _) | k_unfold); (try dsimp only); try clear qk ek | (fail_if_success with_reducible refine Stop.go (by constructor) ?_); first | walk1 | dsimp only; walk1))
    have e9 : (List.range vs.toArray.size).map (fun i => (cs.map cone).getD i (Str.ofString "")) = cs.map cone := by
      apply List.ext_getElem?
      intro j
      by_cases hj : j < cs.length
      · have hj2 : j < vs.length := by (clear hdc hlow hz hb hn hdp hlt z2 zc zd zp; lia)
        simp [hj, hj2, List.getD_eq_getElem?_getD]
      · have hj2 : ¬ j < vs.length := by (clear hdc hlow hz hb hn hdp hlt z2 zc zd zp; lia)
        rw [List.getElem?_eq_none (by simp; (clear hdc hlow hz hb hn hdp hlt z2 zc zd zp hj2; lia)), List.getElem?_eq_none (by simp; (clear hdc hlow hz hb hn hdp hvl hlt z2 zc zd zp hj2; lia))]
    refine join_gen X2 G2 (fun i => (cs.map cone).getD i (Str.ofString "")) (fun j v h => h) (by rw [e9]; exact cone_ok hb) (fun h3 g3 tk3 t3 G3 K3 => ?_) (by simp; (clear hdc hlow hb hn hdp hlt z2 zc zd zp; lia))
    rw [e9]
    refine ret t3 h3 g3 tk3 ps2 (keep3 hp hc hd KP (fun b o e => K3 b o (Heap.lt_size (kg1 b o e).2) (K2 b o (kg1 b o e).1 (kg1 b o e).2)) (fun q => absurd List.mem_cons_self q) (fun _ => K3 _ _ zc (N2 _ (.tail _ (.head _))).1) fun _ => K3 _ _ zd (N2 _ (.tail _ (.tail _ (.head _)))).1)
      (K3 _ _ zp (N2 _ (.head _)).1) ht2 G3

end
section
variable {w : World} {mg mb : Str → Option Value} {mean : ExcName → Option Value} {dp un : Nat} {gd : Option (List Code)} {fr : List Env} {base : Heap} {s : Shared} {Q E : Value → Shared → Prop}
theorem onlyws_spec
  {c d : Addr} {vs : List Value} {cs : List (Str × Str)} {hh : Int} {n : Int} {tk0 tn : Tok} {k : Nat} {ps qs : Array Value}
  (X : (Mine.heapK w.params).In base) (T : Top topProg GL mean mg mb base) (hS : base.StaysIn s.heap)
  (hc : s.heap.get? c = some (accObj d vs k)) (hd : s.heap.get? d = some (dictOf (iniE hh tk0 n tn) 1)) (hbc : base.get? c = none) (hbd : base.get? d = none) (hdc : @LT.lt Nat _ d c) (hlow : @LT.lt Nat _ 300 d) (hz : vs.length < 1000000)
  (hp : s.heap.get? 140 = some (tabObj ps)) (hbp : base.get? 140 = none) (ht : TabOk posLen ps) (hq : s.heap.get? 147 = some (tabObj qs)) (hbq : base.get? 147 = none) (htq : TabOk posStr qs) (G : AllBare s.gens)
  (hA : AllAt (TupAt s.heap) vs (cs.map ckd)) (hb : tlen cs ≤ 1000000) (hn : 0 ≤ n ∧ n ≤ 1000000)
  (hdp : dp < 700) (hu : un < 800)
  (ret : ∀ h' g' tk' ps' qs', Keep [140, 147] s.heap h' → h'.get? 140 = some (tabObj ps') → TabOk posLen ps' → h'.get? 147 = some (tabObj qs') → TabOk posStr qs' → AllBare g' → Q (.bool (decide (n = 0) && (decide (tlen cs = 0) || Txt.isspace (ctxt cs)))) { s with heap := h', gens := g', toks := tk' }) :
  wpAny (model PySem.Challenge.rw_ik0220_02.row.prog w) (amb dp un gd fr) (call (.ref 167) [.ref c]) Q E s := by
  revert X; k_fill; intro X
  refine wpAny_call ?_
  k_dflt (refine' enterF [(Str.ofString "self", .ref c)] [(140, tabObj ps), (147, tabObj qs), (c, accObj d vs k), (d, dictOf (iniE hh tk0 n tn) 1)] ?kX ?kT hS ?kD ?kho ?khcd ?kroom ?kb ?kl ?kr ?_ ?c1 ?c2 ?c3 ?c4; (
  (case kX => assumption); (case kT => assumption); (case kho => k_is); (case khcd => k_is); (case kb => first | exact BindsTo.of_eq rfl | exact binds_K (by k_in) rfl (by k_is) rfl rfl rfl);
  (case kl => exact locs rfl); (case kr => exact rfl); (case c1 => exact rfl); (case c2 => exact rfl); (case c3 => exact rfl); (case c4 => first | decide | exact fun _ => rfl); (case kroom => first | exact rm0 hdp rfl | (simp only [recursionLimit]; omega))); (case kD => intro q hq'; rcases List.mem_cons.mp hq' with rfl | hq'; exact ⟨hp, hbp⟩; rcases List.mem_cons.mp hq' with rfl | hq'; exact ⟨hq, hbq⟩; rcases List.mem_cons.mp hq' with rfl | hq'; exact ⟨hc, hbc⟩; rcases List.mem_singleton.mp hq' with rfl; exact ⟨hd, hbd⟩))
  intro g L h1 fr' tk F N X1 T1 KP LTs
  refine (let aA := _; let eN := _; let qk := _; let ek := _; (?_ : wpAny _ aA (execs _ eN) qk ek _))
  (repeat' (first | (with_reducible show wpAny _ _ (getAttr (Value.ref _) _ _) _ _ _); k_dflt (refine' get_ownL (by k_asm) (by k_asm) (by k_inst) (by k_is) (by k_is) (by k_is) (by k_is) (by k_is) (by k_is) (by k_get) (by k_handed) ?_) | (fail_if_success fail_if_success k_unfold); (first | with_reducible refine (?_ : wpAny _ _ _ _ _ _) | k_unfold); try dsimp only | (with_reducible show wpAny _ _ (storeName _ _ _) _ _ _); (try dsimp only); walk1 | (fail_if_success with_reducible refine StopT.go (by constructor) ?_); (fail_if_success with_reducible refine Stop.go (by constructor) ?_); first | walk1 | dsimp only; walk1))
  · rename_i e0
    subst e0
    have hAg : AllAt (TupAt g) vs (cs.map ckd) := hA.mono fun v d' z => z.kept KP fun b hb' o ho => by
      simp at hb'
      rcases hb' with rfl | rfl | rfl | rfl
      · rw [hp] at ho; cases ho; simp
      · rw [hq] at ho; cases ho; simp
      · rw [hc] at ho; cases ho; simp
      · rw [hd] at ho; cases ho; simp
    k_dflt (refine' truthy_lenK (X1.keeps F.keep) ?kI ?k1 ?k2 ?k3 ?_; (case kI => k_inst); (case k1 => k_is); (case k2 => k_is); (case k3 => k_is))
    show wpAny _ (amb (dp + 1) (un + 4) gd fr') _ _ _ _
    refine len_spec (cs := cs) X1 T1 F.keep (N _ (.tail _ (.tail _ (.head _)))).1 (N _ (.tail _ (.tail _ (.tail _ (.head _))))).1 (N _ (.tail _ (.tail _ (.head _)))).2.2 (N _ (.tail _ (.tail _ (.tail _ (.head _))))).2.2 hdc hlow (N _ (.head _)).1 (N _ (.head _)).2.2 ht G (hAg.mono fun _ _ z => z.keeps F.keep) hb hn (by (clear hdc hlow hz hb hn; omega)) (by (clear hdc hlow hz hb hdp hn; omega)) fun t2 h2 g2 tk2 ps2 k2 e2 ht2 G2 => ?_
    have F2 := Fr.re1 F N k2 (.head _)
    have N2 : News g L h2 [(140, tabObj ps2), (147, tabObj qs), (c, accObj d vs k), (d, dictOf (iniE hh tk0 0 tn) 1)] := News.re_new N (.head _) e2 (News.re_keep N k2 (.tail _ (.head _)) (off1 (by (clear hdc hlow hz hb hdp hn; lia))) (News.re_keep N k2 (.tail _ (.tail _ (.head _))) (off1 (by (clear hz hb hdp hn; lia))) (News.re_keep N k2 (.tail _ (.tail _ (.tail _ (.head _)))) (off1 (by (clear hdc hz hb hdp hn; lia))) News.nil)))
    have nn := tlen_nn cs
    clear F N
    refine ⟨⟨by (clear hdc hlow hz hdp hn; lia), by (clear hdc hlow hz hdp hn; lia)⟩, ?_⟩
    simp only [Int.zero_add]
    (repeat' (first | (with_reducible show wpAny _ _ (getAttr (Value.ref _) _ _) _ _ _); k_dflt (refine' get_ownL (by k_asm) (by k_asm) (by k_inst) (by k_is) (by k_is) (by k_is) (by k_is) (by k_is) (by k_is) (by k_get) (by k_handed) ?_) | (fail_if_success fail_if_success k_unfold); (first | with_reducible refine (?_ : wpAny _ _ _ _ _ _) | k_unfold); try dsimp only | (with_reducible show wpAny _ _ (storeName _ _ _) _ _ _); (try dsimp only); walk1 | (fail_if_success with_reducible refine StopT.go (by constructor) ?_); (fail_if_success with_reducible refine Stop.go (by constructor) ?_); first | walk1 | dsimp only; walk1))
    · rename_i e1
      k_dflt (refine' kso_call ?hu (X1.keeps F2.keep) ?kI ?k1 ?k2 ?_; (case hu => show un + 3 + 1 + 1 < cLine; simp only [cLine]; (clear hdc hlow hz hb hdp hn nn e1; lia)); (case kI => k_inst); (case k1 => k_is); (case k2 => k_is))
      show wpAny _ (amb (dp + 1) (un + 5) gd fr') _ _ _ _
      refine str_spec (cs := cs) X1 T1 F2.keep (N2 _ (.tail _ (.tail _ (.head _)))).1 (N2 _ (.tail _ (.tail _ (.tail _ (.head _))))).1 (N2 _ (.tail _ (.tail _ (.head _)))).2.2 (N2 _ (.tail _ (.tail _ (.tail _ (.head _))))).2.2 hdc hlow hz (N2 _ (.tail _ (.head _))).1 (N2 _ (.tail _ (.head _))).2.2 htq G2 (hAg.mono fun _ _ z => z.keeps F2.keep) hb hn (by (clear hdc hlow hz hb hn nn e1; omega)) (by (clear hdc hlow hz hb hdp hn nn e1; omega)) fun t3 h3 g3 tk3 qs3 k3 e3 ht3 G3 => ?_
      have F3 := Fr.re1 F2 N2 k3 (.tail _ (.head _))
      have N3 : News g L h3 [(140, tabObj ps2), (147, tabObj qs3), (c, accObj d vs k), (d, dictOf (iniE hh tk0 0 tn) 1)] := News.re_keep N2 k3 (.head _) (off1 (by (clear hdc hlow hz hb hdp hn nn e1; lia))) (News.re_new N2 (.tail _ (.head _)) e3 (News.re_keep N2 k3 (.tail _ (.tail _ (.head _))) (off1 (by (clear hz hb hdp hn nn e1; lia))) (News.re_keep N2 k3 (.tail _ (.tail _ (.tail _ (.head _)))) (off1 (by (clear hdc hz hb hdp hn nn e1; lia))) News.nil)))
      clear F2 N2
      dsimp only [StrBack]
      (repeat' (first | (fail_if_success fail_if_success k_unfold); (first | with_reducible refine (?_ : wpAny _ _ _ _ _ _) | k_unfold); try dsimp only | (with_reducible show wpAny _ _ (storeName _ _ _) _ _ _); (try dsimp only); walk1 | (fail_if_success with_reducible refine Stop.go (by constructor) ?_); first | walk1 | dsimp only; walk1))
      have ev : (decide ((0 : Int) = 0) && (decide (tlen cs = 0) || Txt.isspace (ctxt cs))) = Txt.isspace (ctxt cs) := by simp [e1]
      rw [ev] at ret
      exact ret h3 g3 _ ps2 qs3 (keep4 hp hq hc hd KP (fun b o e => F3.keep b o e) (fun q => absurd List.mem_cons_self q) (fun q => absurd (.tail _ (.head _)) q) (fun _ => (N3 _ (.tail _ (.tail _ (.head _)))).1) fun _ => (N3 _ (.tail _ (.tail _ (.tail _ (.head _))))).1)
        (N3 _ (.head _)).1 ht2 (N3 _ (.tail _ (.head _))).1 ht3 G3
    · rename_i e1
      have ev : (decide ((0 : Int) = 0) && (decide (tlen cs = 0) || Txt.isspace (ctxt cs))) = !tlen cs != 0 := by simp [e1]
      rw [ev] at ret
      exact ret h2 g2 _ ps2 qs (keep4 hp hq hc hd KP (fun b o e => F2.keep b o e) (fun q => absurd List.mem_cons_self q) (fun q => absurd (.tail _ (.head _)) q) (fun _ => (N2 _ (.tail _ (.tail _ (.head _)))).1) fun _ => (N2 _ (.tail _ (.tail _ (.tail _ (.head _))))).1)
        (N2 _ (.head _)).1 ht2 (N2 _ (.tail _ (.head _))).1 htq G2
  · rename_i e0
    have ev : (decide (n = 0) && (decide (tlen cs = 0) || Txt.isspace (ctxt cs))) = (n == 0) := by simp [e0]
    rw [ev] at ret
    exact ret h1 _ _ ps qs (keep4 hp hq hc hd KP (fun b o e => F.keep b o e) (fun q => absurd List.mem_cons_self q) (fun q => absurd (.tail _ (.head _)) q) (fun _ => (N _ (.tail _ (.tail _ (.head _)))).1) fun _ => (N _ (.tail _ (.tail _ (.tail _ (.head _))))).1)
      (N _ (.head _)).1 ht (N _ (.tail _ (.head _))).1 htq G

end
section
variable {w : World} {mg mb : Str → Option Value} {mean : ExcName → Option Value} {dp un : Nat} {gd : Option (List Code)} {fr : List Env} {base : Heap} {s : Shared} {Q E : Value → Shared → Prop}
theorem popfrom_spec
  {c d : Addr} {vs : List Value} {hh : Int} {n : Int} {tk0 tn ti : Tok} {k i : Nat}
  (X : (Mine.heapK w.params).In base) (T : Top topProg GL mean mg mb base) (hS : base.StaysIn s.heap)
  (hc : s.heap.get? c = some (accObj d vs k)) (hd : s.heap.get? d = some (dictOf (iniE hh tk0 n tn) 1)) (hbc : base.get? c = none) (hbd : base.get? d = none) (hdc : @LT.lt Nat _ d c) (hz : vs.length < 100000) (hi : i ≤ vs.length)
  (hdp : dp < 800) (hu : un < 900)
  (ret : ∀ h' tk' P k', s.heap.get? P = none → Keep [c] s.heap h' → h'.get? P = some (listOf (vs.drop i).toArray 0) → h'.get? c = some (accObj d (vs.take i) k') → Q (.ref P) { s with heap := h', toks := tk' }) :
  wpAny (model PySem.Challenge.rw_ik0220_02.row.prog w) (amb dp un gd fr) (call (.ref 130) [.ref c, .int (i : Int) ti]) Q E s := by
  revert X; k_fill; intro X
  have XS := X.keeps hS
  refine wpAny_call ?_
  k_dflt (refine' enterF [(Str.ofString "i", .int (i : Int) ti), (Str.ofString "self", .ref c)] [(c, accObj d vs k), (d, dictOf (iniE hh tk0 n tn) 1)] ?kX ?kT hS ?kD ?kho ?khcd ?kroom ?kb ?kl ?kr ?_ ?c1 ?c2 ?c3 ?c4; (
  (case kX => assumption); (case kT => assumption); (case kho => k_is); (case khcd => k_is); (case kb => first | exact BindsTo.of_eq rfl | exact binds_K (by k_in) rfl (by k_is) rfl rfl rfl);
  (case kl => exact locs rfl); (case kr => exact rfl); (case c1 => exact rfl); (case c2 => exact rfl); (case c3 => exact rfl); (case c4 => first | decide | exact fun _ => rfl); (case kroom => first | exact rm0 hdp rfl | (simp only [recursionLimit]; omega))); (case kD => intro q hq; rcases List.mem_cons.mp hq with rfl | hq; exact ⟨hc, hbc⟩; rcases List.mem_singleton.mp hq with rfl; exact ⟨hd, hbd⟩))
  intro g L h1 fr' tk F N X1 T1 KP LTs
  refine (let aA := _; let eN := _; let qk := _; let ek := _; (?_ : wpAny _ aA (execs _ eN) qk ek _))
  clear XS
  (repeat' (first | (fail_if_success with_reducible refine Nf.go (by constructor) ?_); (fail_if_success fail_if_success with_reducible refine Fd.go (by constructor) ?_; k_fold); refine (let qk := _; let ek := _; (?_ : wpAny _ _ _ qk ek _)) | (fail_if_success fail_if_success k_unfold); (first | with_reducible refine (?_ : wpAny _ _ _ _ _ _) | k_unfold); (try dsimp only); try clear qk ek | (fail_if_success with_reducible refine Stop.go (by constructor) ?_); first | walk1 | dsimp only; walk1))
  obtain ⟨F2, N2, l2⟩ := ks_newsPush (s := { s with heap := h1, toks := tk }) (o := sliceO (.int (i : Int) ti) .none) F N rfl (Heap.get?_push_at rfl rfl) (fun b o e => Heap.get?_push_of_some _ e)
  have l3 := allLt_of l2
  simp only [AllLt] at l3
  k_dflt (refine' sub_from (o := accObj d vs k) (vs := vs) (n := k) F2 X1 N2 ?kI ?k1 ?k2 ?k3 rfl (.head _) (by (clear hdc hi hdp l3; lia)) ?_; (case kI => k_inst); (case k1 => k_is); (case k2 => k_is); (case k3 => k_is))
  intro P h3 F3 N3 l4
  have l5 := allLt_of l4
  simp only [AllLt] at l5
  clear F N F2 N2
  (repeat' (first | (fail_if_success with_reducible refine Nf.go (by constructor) ?_); (fail_if_success fail_if_success with_reducible refine Fd.go (by constructor) ?_; k_fold); refine (let qk := _; let ek := _; (?_ : wpAny _ _ _ qk ek _)) | (fail_if_success fail_if_success k_unfold); (first | with_reducible refine (?_ : wpAny _ _ _ _ _ _) | k_unfold); (try dsimp only); try clear qk ek | (fail_if_success with_reducible refine Stop.go (by constructor) ?_); first | walk1 | dsimp only; walk1))
  rename_i lE h5 F5 N5 l6
  obtain ⟨F6, N6, l7⟩ := ks_newsPush (s := { s with heap := h5 }) (o := sliceO (.int (i : Int) ti) .none) F5 N5 rfl (Heap.get?_push_at rfl rfl) (fun b o e => Heap.get?_push_of_some _ e)
  have l8 := allLt_of l7
  simp only [AllLt] at l8
  clear F5 N5
  obtain ⟨k9, ek9⟩ : ∃ k', Obj.mapSeq (fun xs => xs.extract 0 (sliceBounds (some (i : Int)) none none vs.toArray.size).1.toNat ++ ([] : List Value).toArray ++ xs.extract (max (sliceBounds (some (i : Int)) none none vs.toArray.size).1 (sliceBounds (some (i : Int)) none none vs.toArray.size).2.1).toNat xs.size) (accObj d vs k) = accObj d (vs.take i ++ []) k' := mapSeq_is (cut_from vs [] i hi)
  k_dflt (refine' set_cut (o := accObj d vs k) (vs := vs) (new := []) (n := k) (lo := some (i : Int)) F6 X1 N6 ?kI ?k1 ?k2 ?k3 rfl (.head _) (.int _ _) (.tail _ (.head _)) ?k4 ?k5 ek9 ?k6 ?_; (case kI => k_inst); (case k1 => k_is); (case k2 => k_is); (case k3 => k_is); (case k4 => (show @Ne Nat _ _); (clear hdc hz hi hdp l3 l5 l8; omega)); (case k5 => simp; (clear hdc hi hdp l3 l5 l6 l8; omega)); (case k6 => k_upd))
  intro h9 F9 N9
  clear F6 N6
  (repeat' (first | (fail_if_success with_reducible refine Nf.go (by constructor) ?_); (fail_if_success fail_if_success with_reducible refine Fd.go (by constructor) ?_; k_fold); refine (let qk := _; let ek := _; (?_ : wpAny _ _ _ qk ek _)) | (fail_if_success fail_if_success k_unfold); (first | with_reducible refine (?_ : wpAny _ _ _ _ _ _) | k_unfold); (try dsimp only); try clear qk ek | (fail_if_success with_reducible refine Stop.go (by constructor) ?_); first | walk1 | dsimp only; walk1))
  have z := (N9 _ (.tail _ (.tail _ (.tail _ (.tail _ (.head _)))))).1
  rw [List.append_nil] at z
  exact ret h9 _ P _ (keep_none KP (N9 _ (.tail _ (.tail _ (.head _)))).2.2 (fun hm => by simp only [List.map_cons, List.map_nil, List.mem_cons, List.not_mem_nil, or_false] at hm; rcases hm with h | h <;> (have h' : @Eq Nat P _ := h; (clear hdc hz hi hdp l3 l6 l8 h; lia)))) (keep2 hc hd KP F9.keep (fun q => absurd List.mem_cons_self q) fun _ => (N9 _ (.tail _ (.tail _ (.tail _ (.tail _ (.tail _ (.head _))))))).1) (N9 _ (.tail _ (.tail _ (.head _)))).1 z

end
section
variable {w : World} {mg mb : Str → Option Value} {mean : ExcName → Option Value} {dp un : Nat} {gd : Option (List Code)} {fr : List Env} {base : Heap} {s : Shared} {Q E : Value → Shared → Prop}
theorem reset0_spec
  {c d : Addr} {vs : List Value} {hh : Int} {n : Int} {tk0 tn : Tok} {k : Nat}
  (X : (Mine.heapK w.params).In base) (T : Top topProg GL mean mg mb base) (hS : base.StaysIn s.heap)
  (hc : s.heap.get? c = some (accObj d vs k)) (hd : s.heap.get? d = some (dictOf (iniE hh tk0 n tn) 1)) (hbc : base.get? c = none) (hbd : base.get? d = none) (hdc : @LT.lt Nat _ d c) (hz : vs.length < 100000)
  (hdp : dp < 800) (hu : un < 900)
  (ret : ∀ h' tk' k' tn', Keep [c, d] s.heap h' → h'.get? c = some (accObj d [] k') → h'.get? d = some (dictOf (iniE hh tk0 0 tn') 1) → Q .none { s with heap := h', toks := tk' }) :
  wpAny (model PySem.Challenge.rw_ik0220_02.row.prog w) (amb dp un gd fr) (call (.ref 160) [.ref c]) Q E s := by
  revert X; k_fill; intro X
  have XS := X.keeps hS
  refine wpAny_call ?_
  k_dflt (refine' enterF [(Str.ofString "startval", .none), (Str.ofString "self", .ref c)] [(c, accObj d vs k), (d, dictOf (iniE hh tk0 n tn) 1)] ?kX ?kT hS ?kD ?kho ?khcd ?kroom ?kb ?kl ?kr ?_ ?c1 ?c2 ?c3 ?c4; (
  (case kX => assumption); (case kT => assumption); (case kho => k_is); (case khcd => k_is); (case kb => first | exact BindsTo.of_eq rfl | exact binds_K (by k_in) rfl (by k_is) rfl rfl rfl);
  (case kl => exact locs rfl); (case kr => exact rfl); (case c1 => exact rfl); (case c2 => exact rfl); (case c3 => exact rfl); (case c4 => first | decide | exact fun _ => rfl); (case kroom => first | exact rm0 hdp rfl | (simp only [recursionLimit]; omega))); (case kD => intro q hq; rcases List.mem_cons.mp hq with rfl | hq; exact ⟨hc, hbc⟩; rcases List.mem_singleton.mp hq with rfl; exact ⟨hd, hbd⟩))
  intro g L h1 fr' tk F N X1 T1 KP LTs
  refine (let aA := _; let eN := _; let qk := _; let ek := _; (?_ : wpAny _ aA (execs _ eN) qk ek _))
  clear XS
  (repeat' (first | (with_reducible show wpAny _ _ (setAttr (Value.ref _) _ _) _ _ _); k_dflt (refine' setL (by k_asm) (by k_asm) (by k_asm) (by exact accInst (by k_asm) (by k_mem) (by k_mem)) (by exact rfl) (by k_is) (by kernel_rfl) (by k_is) (by k_is) (by k_get) (by k_put) (by k_upd) (by exact Nat.le_of_ble_eq_true rfl) ?_); intro _ _ _; (try k_sweep) | (with_reducible show wpAny _ _ (getAttr (Value.ref _) _ _) _ _ _); k_dflt (refine' get_ownL (by k_asm) (by k_asm) (by k_inst) (by k_is) (by k_is) (by k_is) (by k_is) (by k_is) (by k_is) (by k_get) (by k_handed) ?_) | (fail_if_success with_reducible refine Nf.go (by constructor) ?_); (fail_if_success fail_if_success with_reducible refine Fd.go (by constructor) ?_; k_fold); refine (let qk := _; let ek := _; (?_ : wpAny _ _ _ qk ek _)) | (fail_if_success fail_if_success k_unfold); (first | with_reducible refine (?_ : wpAny _ _ _ _ _ _) | k_unfold); (try dsimp only); try clear qk ek | (fail_if_success with_reducible refine Stop.go (by constructor) ?_); first | walk1 | dsimp only; walk1))
  rename_i lE hOld l6 h5 F5 N5
  obtain ⟨F6, N6, l7⟩ := ks_newsPush (s := { s with heap := h5, toks := tk }) (o := sliceO .none .none) F5 N5 rfl (Heap.get?_push_at rfl rfl) (fun b o e => Heap.get?_push_of_some _ e)
  have l8 := allLt_of l7
  simp only [AllLt] at l8
  clear F5 N5
  obtain ⟨k9, ek9⟩ : ∃ k', Obj.mapSeq (fun xs => xs.extract 0 (sliceBounds none none none vs.toArray.size).1.toNat ++ ([] : List Value).toArray ++ xs.extract (max (sliceBounds none none none vs.toArray.size).1 (sliceBounds none none none vs.toArray.size).2.1).toNat xs.size) (accObj d vs k) = accObj d [] k' := mapSeq_is (cut_all vs [])
  k_dflt (refine' set_cut (o := accObj d vs k) (vs := vs) (new := []) (n := k) (lo := none) F6 X1 N6 ?kI ?k1 ?k2 ?k3 rfl (.head _) .none (.tail _ (.head _)) ?k4 ?k5 ek9 ?k6 ?_; (case kI => k_inst); (case k1 => k_is); (case k2 => k_is); (case k3 => k_is); (case k4 => (show @Ne Nat _ _); (clear hdc hz hdp l8; lia)); (case k5 => simp; (clear hdc hdp l6 l8; lia)); (case k6 => k_upd))
  intro h9 F9 N9
  clear F6 N6
  (repeat' (first | (with_reducible show wpAny _ _ (setAttr (Value.ref _) _ _) _ _ _); k_dflt (refine' setL (by k_asm) (by k_asm) (by k_asm) (by exact accInst (by k_asm) (by k_mem) (by k_mem)) (by exact rfl) (by k_is) (by kernel_rfl) (by k_is) (by k_is) (by k_get) (by k_put) (by k_upd) (by exact Nat.le_of_ble_eq_true rfl) ?_); intro _ _ _; (try k_sweep) | (with_reducible show wpAny _ _ (getAttr (Value.ref _) _ _) _ _ _); k_dflt (refine' get_ownL (by k_asm) (by k_asm) (by k_inst) (by k_is) (by k_is) (by k_is) (by k_is) (by k_is) (by k_is) (by k_get) (by k_handed) ?_) | (fail_if_success with_reducible refine Nf.go (by constructor) ?_); (fail_if_success fail_if_success with_reducible refine Fd.go (by constructor) ?_; k_fold); refine (let qk := _; let ek := _; (?_ : wpAny _ _ _ qk ek _)) | (fail_if_success fail_if_success k_unfold); (first | with_reducible refine (?_ : wpAny _ _ _ _ _ _) | k_unfold); (try dsimp only); try clear qk ek | (fail_if_success with_reducible refine Stop.go (by constructor) ?_); first | walk1 | dsimp only; walk1))
  rename Heap => h10; rename Fr _ _ _ _ => F10; rename News _ _ _ _ => N10
  exact ret h10 _ _ _ (keep2 hc hd KP F10.keep (fun q => absurd List.mem_cons_self q) (fun q => absurd (.tail _ (.head _)) q)) (N10 _ (.tail _ (.tail _ (.head _)))).1 (N10 _ (.tail _ (.tail _ (.tail _ (.head _))))).1
theorem reset1_spec
  {c d P : Addr} {vs ws : List Value} {np : Nat} {hh : Int} {n : Int} {tk0 tn : Tok} {k : Nat}
  (X : (Mine.heapK w.params).In base) (T : Top topProg GL mean mg mb base) (hS : base.StaysIn s.heap)
  (hc : s.heap.get? c = some (accObj d vs k)) (hd : s.heap.get? d = some (dictOf (iniE hh tk0 n tn) 1)) (hbc : base.get? c = none) (hbd : base.get? d = none) (hdc : @LT.lt Nat _ d c) (hP : s.heap.get? P = some (listOf ws.toArray np)) (hbP : base.get? P = none) (hcP : @Ne Nat c P) (hdP : @Ne Nat d P) (hz : vs.length < 100000) (hz2 : ws.length < 100000)
  (hdp : dp < 800) (hu : un < 900)
  (ret : ∀ h' tk' k' tn', Keep [c, d] s.heap h' → h'.get? c = some (accObj d ws k') → h'.get? d = some (dictOf (iniE hh tk0 0 tn') 1) → Q .none { s with heap := h', toks := tk' }) :
  wpAny (model PySem.Challenge.rw_ik0220_02.row.prog w) (amb dp un gd fr) (call (.ref 160) [.ref c, .ref P]) Q E s := by
  revert X; k_fill; intro X
  have XS := X.keeps hS
  refine wpAny_call ?_
  k_dflt (refine' enterF [(Str.ofString "startval", .ref P), (Str.ofString "self", .ref c)] [(P, listOf ws.toArray np), (c, accObj d vs k), (d, dictOf (iniE hh tk0 n tn) 1)] ?kX ?kT hS ?kD ?kho ?khcd ?kroom ?kb ?kl ?kr ?_ ?c1 ?c2 ?c3 ?c4; (
  (case kX => assumption); (case kT => assumption); (case kho => k_is); (case khcd => k_is); (case kb => first | exact BindsTo.of_eq rfl | exact binds_K (by k_in) rfl (by k_is) rfl rfl rfl);
  (case kl => exact locs rfl); (case kr => exact rfl); (case c1 => exact rfl); (case c2 => exact rfl); (case c3 => exact rfl); (case c4 => first | decide | exact fun _ => rfl); (case kroom => first | exact rm0 hdp rfl | (simp only [recursionLimit]; omega))); (case kD => intro q hq; rcases List.mem_cons.mp hq with rfl | hq; exact ⟨hP, hbP⟩; rcases List.mem_cons.mp hq with rfl | hq; exact ⟨hc, hbc⟩; rcases List.mem_singleton.mp hq with rfl; exact ⟨hd, hbd⟩))
  intro g L h1 fr' tk F N X1 T1 KP LTs
  refine (let aA := _; let eN := _; let qk := _; let ek := _; (?_ : wpAny _ aA (execs _ eN) qk ek _))
  clear XS
  (repeat' (first | (with_reducible show wpAny _ _ (setAttr (Value.ref _) _ _) _ _ _); k_dflt (refine' setL (by k_asm) (by k_asm) (by k_asm) (by exact accInst (by k_asm) (by k_mem) (by k_mem)) (by exact rfl) (by k_is) (by kernel_rfl) (by k_is) (by k_is) (by k_get) (by k_put) (by k_upd) (by exact Nat.le_of_ble_eq_true rfl) ?_); intro _ _ _; (try k_sweep) | (with_reducible show wpAny _ _ (getAttr (Value.ref _) _ _) _ _ _); k_dflt (refine' get_ownL (by k_asm) (by k_asm) (by k_inst) (by k_is) (by k_is) (by k_is) (by k_is) (by k_is) (by k_is) (by k_get) (by k_handed) ?_) | (fail_if_success with_reducible refine Nf.go (by constructor) ?_); (fail_if_success fail_if_success with_reducible refine Fd.go (by constructor) ?_; k_fold); refine (let qk := _; let ek := _; (?_ : wpAny _ _ _ qk ek _)) | (fail_if_success fail_if_success k_unfold); (first | with_reducible refine (?_ : wpAny _ _ _ _ _ _) | k_unfold); (try dsimp only); try clear qk ek | (fail_if_success with_reducible refine Stop.go (by constructor) ?_); first | walk1 | dsimp only; walk1))
  walk1
  (repeat' (first | (with_reducible show wpAny _ _ (setAttr (Value.ref _) _ _) _ _ _); k_dflt (refine' setL (by k_asm) (by k_asm) (by k_asm) (by exact accInst (by k_asm) (by k_mem) (by k_mem)) (by exact rfl) (by k_is) (by kernel_rfl) (by k_is) (by k_is) (by k_get) (by k_put) (by k_upd) (by exact Nat.le_of_ble_eq_true rfl) ?_); intro _ _ _; (try k_sweep) | (with_reducible show wpAny _ _ (getAttr (Value.ref _) _ _) _ _ _); k_dflt (refine' get_ownL (by k_asm) (by k_asm) (by k_inst) (by k_is) (by k_is) (by k_is) (by k_is) (by k_is) (by k_is) (by k_get) (by k_handed) ?_) | (fail_if_success with_reducible refine Nf.go (by constructor) ?_); (fail_if_success fail_if_success with_reducible refine Fd.go (by constructor) ?_; k_fold); refine (let qk := _; let ek := _; (?_ : wpAny _ _ _ qk ek _)) | (fail_if_success fail_if_success k_unfold); (first | with_reducible refine (?_ : wpAny _ _ _ _ _ _) | k_unfold); (try dsimp only); try clear qk ek | (fail_if_success with_reducible refine Stop.go (by constructor) ?_); first | walk1 | dsimp only; walk1))
  obtain ⟨F6, N6, l7⟩ := ks_newsPush (s := { s with heap := h1, toks := tk }) (o := sliceO .none .none) F N rfl (Heap.get?_push_at rfl rfl) (fun b o e => Heap.get?_push_of_some _ e)
  have l8 := allLt_of l7
  simp only [AllLt] at l8
  clear F N
  obtain ⟨k9, ek9⟩ : ∃ k', Obj.mapSeq (fun xs => xs.extract 0 (sliceBounds none none none vs.toArray.size).1.toNat ++ ws.toArray ++ xs.extract (max (sliceBounds none none none vs.toArray.size).1 (sliceBounds none none none vs.toArray.size).2.1).toNat xs.size) (accObj d vs k) = accObj d ws k' := mapSeq_is (cut_all vs ws)
  k_dflt (refine' set_cut (o := accObj d vs k) (vs := vs) (new := ws) (n := k) (lo := none) F6 X1 N6 ?kI ?k1 ?k2 ?k3 rfl (.head _) .none (.tail _ (.head _)) ?k4 ?k5 ek9 ?k6 ?_; (case kI => k_inst); (case k1 => k_is); (case k2 => k_is); (case k3 => k_is); (case k4 => (show @Ne Nat _ _); (clear hz hz2 hdp l8; omega)); (case k5 => (clear hdc hcP hdP hdp l8; lia)); (case k6 => k_upd))
  intro h9 F9 N9
  clear F6 N6
  (repeat' (first | (with_reducible show wpAny _ _ (setAttr (Value.ref _) _ _) _ _ _); k_dflt (refine' setL (by k_asm) (by k_asm) (by k_asm) (by exact accInst (by k_asm) (by k_mem) (by k_mem)) (by exact rfl) (by k_is) (by kernel_rfl) (by k_is) (by k_is) (by k_get) (by k_put) (by k_upd) (by exact Nat.le_of_ble_eq_true rfl) ?_); intro _ _ _; (try k_sweep) | (with_reducible show wpAny _ _ (getAttr (Value.ref _) _ _) _ _ _); k_dflt (refine' get_ownL (by k_asm) (by k_asm) (by k_inst) (by k_is) (by k_is) (by k_is) (by k_is) (by k_is) (by k_is) (by k_get) (by k_handed) ?_) | (fail_if_success with_reducible refine Nf.go (by constructor) ?_); (fail_if_success fail_if_success with_reducible refine Fd.go (by constructor) ?_; k_fold); refine (let qk := _; let ek := _; (?_ : wpAny _ _ _ qk ek _)) | (fail_if_success fail_if_success k_unfold); (first | with_reducible refine (?_ : wpAny _ _ _ _ _ _) | k_unfold); (try dsimp only); try clear qk ek | (fail_if_success with_reducible refine Stop.go (by constructor) ?_); first | walk1 | dsimp only; walk1))
  rename Heap => h10; rename Fr _ _ _ _ => F10; rename News _ _ _ _ => N10
  exact ret h10 _ _ _ (keep3 hP hc hd KP F10.keep (fun _ => (N10 _ (.tail _ (.head _))).1) (fun q => absurd List.mem_cons_self q) (fun q => absurd (.tail _ (.head _)) q)) (N10 _ (.tail _ (.tail _ (.head _)))).1 (N10 _ (.tail _ (.tail _ (.tail _ (.head _))))).1

end
section
variable {w : World} {mg mb : Str → Option Value} {mean : ExcName → Option Value} {dp un : Nat} {gd : Option (List Code)} {fr : List Env} {base : Heap} {s : Shared} {Q E : Value → Shared → Prop}
theorem finit_spec
  {f fd : Addr} {n W : Int} {tn tw t1 t2 : Tok} {cw sp : Str} {R : Result → Shared → Prop}
  (X : (Mine.heapK w.params).In base) (T : Top topProg GL mean mg mb base) (hS : base.StaysIn s.heap)
  (hf : s.heap.get? f = some (instObj 94 fd)) (hd : s.heap.get? fd = some (dictOf [] 0)) (hbf : base.get? f = none) (hbd : base.get? fd = none) (hfd : @LT.lt Nat _ fd f) (hcw : cw.length ≤ 10)
  (hdp : dp < 700) (hu : un < 800)
  (ret : ∀ h' tk' q dC k hh tk0 tn0, Keep [f, fd] s.heap h' → q.mx = W → q.cw = cw → q.sp = sp → h'.get? f = some (instObj 94 fd) → h'.get? fd = some (dictOf (fmtE q) 6) → h'.get? q.ln = some (listOf #[] 0) →
    h'.get? q.cu = some (accObj dC [] k) → h'.get? dC = some (dictOf (iniE hh tk0 n tn0) 1) → s.heap.get? q.ln = none → s.heap.get? q.cu = none → s.heap.get? dC = none → @LT.lt Nat _ f q.ln → @LT.lt Nat _ q.ln dC → @LT.lt Nat _ dC q.cu → R (.ok (.ret .none)) { s with heap := h', toks := tk' }) :
  codeAny (model PySem.Challenge.rw_ik0220_02.row.prog w) (amb dp un gd fr) (.call (.ref 35) ⟨[.ref f, .int n tn, .int W tw, .str cw t1, .str sp t2], []⟩) R s := by
  revert X; k_fill; intro X
  k_dflt (refine' enterF [(Str.ofString "splitchars", .str sp t2), (Str.ofString "continuation_ws", .str cw t1), (Str.ofString "maxlen", .int W tw), (Str.ofString "headerlen", .int n tn), (Str.ofString "self", .ref f)] [(f, instObj 94 fd), (fd, dictOf [] 0)] ?kX ?kT hS ?kD ?kho ?khcd ?kroom ?kb ?kl ?kr ?_ ?c1 ?c2 ?c3 ?c4; (
  (case kX => assumption); (case kT => assumption); (case kho => k_is); (case khcd => k_is); (case kb => first | exact BindsTo.of_eq rfl | exact binds_K (by k_in) rfl (by k_is) rfl rfl rfl);
  (case kl => exact locs rfl); (case kr => exact rfl); (case c1 => exact rfl); (case c2 => exact rfl); (case c3 => exact rfl); (case c4 => first | decide | exact fun _ => rfl); (case kroom => first | exact rm0 hdp rfl | (simp only [recursionLimit]; omega))); (case kD => intro q hq; rcases List.mem_cons.mp hq with rfl | hq; exact ⟨hf, hbf⟩; rcases List.mem_singleton.mp hq with rfl; exact ⟨hd, hbd⟩))
  intro g L h1 fr' tk F N X1 T1 KP LTs
  refine (let aA := _; let eN := _; let qk := _; let ek := _; (?_ : wpAny _ aA (execs _ eN) qk ek _))
  (repeat' (first | (fail_if_success fail_if_success k_unfold); (first | with_reducible refine (?_ : wpAny _ _ _ _ _ _) | k_unfold); try dsimp only | (with_reducible show wpAny _ _ (storeName _ _ _) _ _ _); (try dsimp only); walk1 | (fail_if_success with_reducible refine Stop.go (by constructor) ?_); first | walk1 | dsimp only; walk1))
  rename_i lE hO l5 h6 F6 N6
  k_dflt (refine' call_list F6 X1 N6 ?k1 ?k2 ?k3 ?_; (case k1 => kernel_rfl); (case k2 => k_is); (case k3 => k_is))
  intro c dC h7 F7 N7 l7 l8 z7
  have l9 := allLt_of l7
  simp only [AllLt] at l9
  rw [under_make]
  refine init_spec X1 T1 F7.keep (N7 _ (.head _)).1 (N7 _ (.tail _ (.head _))).1 (N7 _ (.head _)).2.2 (N7 _ (.tail _ (.head _))).2.2 l8 (by (clear hfd hcw l5 l8 z7 l9; lia)) (by (clear hfd hcw hdp l5 l8 z7 l9; lia)) fun h8 tk8 hh tk0 k8 e8 d8 => ?_
  refine ⟨rfl, ?_⟩
  have F8 := Fr.re2 F7 N7 k8 (.head _) (.tail _ (.head _))
  have l8' : @LT.lt Nat _ dC c := l8
  have N8 := News.re_new N7 (.head _) e8 (News.re_new N7 (.tail _ (.head _)) d8 (News.re_keep N7 k8 (.tail _ (.tail _ (.head _))) (off2 (by (clear hfd hcw hdp l5 l8 z7; lia)) (by (clear hfd hcw hdp l5 l8 z7 l8'; omega))) (News.re_keep N7 k8 (.tail _ (.tail _ (.tail _ (.head _)))) (off2 (by (clear hfd hcw hdp l5 l8 z7; lia)) (by (clear hfd hcw hdp l5 l8 z7 l8'; omega))) (News.re_keep N7 k8 (.tail _ (.tail _ (.tail _ (.tail _ (.head _))))) (off2 (by (clear hfd hcw hdp l5 l8 z7; lia)) (by (clear hfd hcw hdp l5 l8 z7 l8'; lia))) News.nil))))
  clear F6 N6 F7 N7
  dsimp only
  (repeat' (first | (fail_if_success with_reducible refine Nf.go (by constructor) ?_); (fail_if_success fail_if_success with_reducible refine Fd.go (by constructor) ?_; k_fold); refine (let qk := _; let ek := _; (?_ : wpAny _ _ _ qk ek _)) | (fail_if_success fail_if_success k_unfold); (first | with_reducible refine (?_ : wpAny _ _ _ _ _ _) | k_unfold); (try dsimp only); try clear qk ek | (fail_if_success with_reducible refine Stop.go (by constructor) ?_); first | walk1 | dsimp only; walk1))
  rename Heap => h9; rename Fr _ _ _ _ => F9; rename News _ _ _ _ => N9
  have off : ∀ {x : Nat}, x ≠ f → x ≠ fd → (x : Addr) ∉ [(f, instObj 94 fd), (fd, dictOf [] 0)].map Prod.fst := fun a b => off2 a b
  refine ret h9 _ ⟨_, _, _, _, _, _, _, _, _, _, _, _, W, tw, cw, t1, _, _, sp, t2, lE, c⟩ dC 0 hh tk0 tn
    (keep2 hf hd KP F9.keep (fun q => absurd List.mem_cons_self q) (fun q => absurd (.tail _ (.head _)) q)) rfl rfl rfl (N9 _ (.tail _ (.tail _ (.tail _ (.head _))))).1 (N9 _ (.tail _ (.tail _ (.tail _ (.tail _ (.head _)))))).1
    (N9 _ (.tail _ (.tail _ (.head _)))).1 (N9 _ (.head _)).1 (N9 _ (.tail _ (.head _))).1
    (keep_none KP (N9 _ (.tail _ (.tail _ (.head _)))).2.2 (off (x := lE) (by (clear hfd hcw hdp l8 z7 l9 l8'; lia)) (by (clear hfd hcw hdp l8 z7 l9 l8'; lia)))) (keep_none KP (N9 _ (.head _)).2.2 (off (x := c) (by (clear hfd hcw hdp l5 l8 z7; lia)) (by (clear hfd hcw hdp l5 l8 z7; lia)))) (keep_none KP (N9 _ (.tail _ (.head _))).2.2 (off (x := dC) (by (clear hfd hcw hdp l5 l8 z7 l8'; omega)) (by (clear hfd hcw hdp l5 l8 z7 l8'; lia)))) (by show @LT.lt Nat _ f lE; (clear hfd hcw hdp l8 z7 l9 l8'; omega)) (by show @LT.lt Nat _ lE dC; (clear hfd hcw hdp l5 l8 z7 l8'; omega)) l8'

end
section
variable {w : World} {mg mb : Str → Option Value} {mean : ExcName → Option Value} {dp un : Nat} {gd : Option (List Code)} {fr : List Env} {base : Heap} {s : Shared} {Q E : Value → Shared → Prop}
theorem pop2_spec
  {c d : Addr} {vs : List Value} {cs : List (Str × Str)} {hh : Int} {n : Int} {tk0 tn : Tok} {k : Nat}
  (X : (Mine.heapK w.params).In base) (T : Top topProg GL mean mg mb base) (hS : base.StaysIn s.heap)
  (hc : s.heap.get? c = some (accObj d vs k)) (hd : s.heap.get? d = some (dictOf (iniE hh tk0 n tn) 1)) (hbc : base.get? c = none) (hbd : base.get? d = none) (hdc : @LT.lt Nat _ d c) (hz : vs.length < 1000000)
  (hA : AllAt (TupAt s.heap) vs (cs.map ckd)) (hdp : dp < 800) (hu : un < 900)
  (ret : ∀ h' tk' T vs' cs' e k', Keep [c] s.heap h' → h'.get? c = some (accObj d vs' k') → AllAt (TupAt h') vs' (cs'.map ckd) → TupAt h' (.ref T) (ckd e) → ((vs' ++ [.ref T] = vs ∧ cs' ++ [e] = cs) ∨ (vs = [] ∧ vs' = [] ∧ cs = [] ∧ cs' = [] ∧ e = (Str.ofString "", Str.ofString ""))) → Q (.ref T) { s with heap := h', toks := tk' }) :
  wpAny (model PySem.Challenge.rw_ik0220_02.row.prog w) (amb dp un gd fr) (call (.ref 138) [.ref c]) Q E s := by
  refine pop_spec X T hS hc hd hbc hbd hdc hz hdp hu (fun ev h' tk' T t1 t2 k' e' => ?_) fun vs' v ev h' tk' k' e' => ?_
  · subst ev
    have ec : cs = [] := by
      have := hA.length
      cases cs with
      | nil => rfl
      | cons a b => simp at this
    subst ec
    exact ret h' tk' T [] [] (Str.ofString "", Str.ofString "") k (k'.mono (fun _ h => no_mem h)) (k'.nil _ _ hc) .nil ⟨T, _, 0, rfl, e', .cons (.s _ _) (.cons (.s _ _) .nil)⟩ (.inr ⟨rfl, rfl, rfl, rfl, rfl⟩)
  · subst ev
    have hne : cs ≠ [] := fun q => by subst q; have := hA.length; simp at this
    obtain ⟨cs', e, rfl⟩ := snoc_of hne
    have kt : ∀ v d', TupAt s.heap v d' → TupAt h' v d' := fun v d' z => z.kept k' fun b hb o ho => by
      rw [List.mem_singleton.mp hb, hc] at ho; cases ho; simp
    have hl : vs'.length = cs'.length := by have := hA.length; simpa using this
    have hA' := hA.dropLast
    rw [List.map_append, List.map_cons, List.map_nil, List.dropLast_concat, List.dropLast_concat] at hA'
    obtain ⟨v9, e9, t9⟩ := hA.get (i := cs'.length) (by simp)
    rw [← hl] at e9
    simp at e9
    subst e9
    have tv : TupAt s.heap v (ckd e) := by simpa using t9
    obtain ⟨T, t1, t2, rfl, -⟩ := tv.pair
    exact ret h' tk' T vs' cs' e (k + 1) k' e' (hA'.mono kt) (kt _ _ tv) (.inl ⟨rfl, rfl⟩)
theorem newline_spec
  {f fd dC : Addr} {q : FK} {ls : List Value} {LS : List Str} {nl : Nat} {vs : List Value} {cs : List (Str × Str)} {k : Nat} {hh : Int} {tk0 : Tok} {n : Int} {tn : Tok} {ps qs : Array Value}
  (X : (Mine.heapK w.params).In base) (T : Top topProg GL mean mg mb base) (hS : base.StaysIn s.heap) (G : AllBare s.gens)
  (a : FAt s.heap f fd dC q ls nl vs k hh tk0 n tn ps qs) (o : FOff base f fd dC q)
  (hA : AllAt (TupAt s.heap) vs (cs.map ckd)) (hb : tlen cs ≤ 1000000) (hn : 0 ≤ n ∧ n ≤ 1000000) (hz : vs.length < 10000) (hok : ∀ c ∈ cs, PyData.strOk c.1 = true ∧ PyData.strOk c.2 = true) (hLS : StrsAre ls LS) (hlz : ls.length < 100000)
  (how : (decide (n = 0) && (decide (tlen (nlc cs) = 0) || Txt.isspace (ctxt (nlc cs)))) = false)
  (hdp : dp < 600) (hu : un < 700)
  (ret : ∀ h' g' tk' ls' nl' k' ps' qs' tn', Keep [q.ln, q.cu, dC, 140, 147] s.heap h' → FAt h' f fd dC q ls' nl' [] k' hh tk0 0 tn' ps' qs' → StrsAre ls' (if 0 < n + tlen (nlc cs) then LS ++ [ctxt (nlc cs)] else LS) → AllBare g' → Q .none { s with heap := h', gens := g', toks := tk' }) :
  wpAny (model PySem.Challenge.rw_ik0220_02.row.prog w) (amb dp un gd fr) (call (.ref 56) [.ref f]) Q E s := by
  revert X; k_fill; intro X
  obtain ⟨p1, p2, p3, p4, p5⟩ := (⟨o.o1, o.o2, o.o3, o.o4, o.o5⟩ : _ ∧ _ ∧ _ ∧ _ ∧ _)
  refine wpAny_call ?_
  k_dflt (refine' enterF [(Str.ofString "self", .ref f)] (fD f fd dC q ls nl vs k hh tk0 n tn ps qs) ?kX ?kT hS ?kD ?kho ?khcd ?kroom ?kb ?kl ?kr ?_ ?c1 ?c2 ?c3 ?c4; (
  (case kX => assumption); (case kT => assumption); (case kho => k_is); (case khcd => k_is); (case kb => first | exact BindsTo.of_eq rfl | exact binds_K (by k_in) rfl (by k_is) rfl rfl rfl);
  (case kl => exact locs rfl); (case kr => exact rfl); (case c1 => exact rfl); (case c2 => exact rfl); (case c3 => exact rfl); (case c4 => first | decide | exact fun _ => rfl); (case kroom => first | exact rm0 hdp rfl | (simp only [recursionLimit]; omega))); (case kD => exact a.all o))
  intro g L h1 fr' tk F N X1 T1 KP LTs
  refine (let aA := _; let eN := _; let qk := _; let ek := _; (?_ : wpAny _ aA (execs _ eN) qk ek _))
  unfold fD at N
  (repeat' (first | (fail_if_success with_reducible refine Nf.go (by constructor) ?_); (fail_if_success fail_if_success with_reducible refine Fd.go (by constructor) ?_; k_fold); refine (let qk := _; let ek := _; (?_ : wpAny _ _ _ qk ek _)) | (fail_if_success fail_if_success k_unfold); (first | with_reducible refine (?_ : wpAny _ _ _ _ _ _) | k_unfold); (try dsimp only); try clear qk ek | (fail_if_success with_reducible refine Stop.go (by constructor) ?_); first | walk1 | dsimp only; walk1))
  try dsimp only
  have hAg : AllAt (TupAt g) vs (cs.map ckd) := hA.mono fun v d' z => z.kept KP fun b hb' ob ho => by
    obtain ⟨r, hr, rfl⟩ := List.mem_map.mp hb'
    have e9 := (a.all o r hr).1
    rw [e9] at ho; cases ho
    simp only [fD, List.mem_cons, List.not_mem_nil, or_false] at hr
    rcases hr with rfl | rfl | rfl | rfl | rfl | rfl | rfl <;> simp
  refine pop2_spec (cs := cs) X1 T1 F.keep (N _ (.tail _ (.tail _ (.tail _ (.head _))))).1 (N _ (.tail _ (.tail _ (.tail _ (.tail _ (.head _)))))).1 (N _ (.tail _ (.tail _ (.tail _ (.head _))))).2.2 (N _ (.tail _ (.tail _ (.tail _ (.tail _ (.head _)))))).2.2 p5 (by (clear hb hn hlz hdp p1 p2 p3 p4 p5; lia)) (hAg.mono fun _ _ z => z.keeps F.keep) (by (clear hb hn hz hlz p1 p2 p3 p4 p5; omega)) (by (clear hb hn hz hlz hdp p1 p2 p3 p4 p5; omega)) fun h2 tk2 TE vs2 cs2 ee k2 kp2 e2 hA2 tE hcs => ?_
  have a1 : FAt h1 f fd dC q ls nl vs k hh tk0 n tn ps qs := FAt.of N (fun p hp => hp) a.atp a.atq
  have a2 := a1.cu' o kp2 e2
  have F2 := fr_kept F N kp2 (fun b hb => by rw [List.mem_singleton.mp hb]; exact ⟨_, .tail _ (.tail _ (.tail _ (.head _)))⟩)
  have tL : ∀ {v : Value} {d : DD}, TupAt h2 v d → v ≠ .ref L := fun z q => by
    obtain ⟨a9, vs9, n9, e9, g9, -⟩ := z
    obtain ⟨oL, es, ep, hl, hdL, -⟩ := F2.ns
    rw [e9] at q; cases q
    rw [hl] at g9; cases g9; cases hdL
  have N2' := a2.news N (fun p hp => hp)
  obtain ⟨ex, hex, N2⟩ : ∃ ex : List (Addr × Obj), (∀ h', (∀ b ob, g.get? b = some ob → h'.get? b = some ob) → (∀ p ∈ ex, h'.get? p.1 = some p.2) → TupAt h' (.ref TE) (ckd ee)) ∧
      News g L h2 ((f, instObj 94 fd) :: (fd, dictOf (fmtE q) 6) :: (q.ln, listOf ls.toArray nl) :: (q.cu, accObj dC vs2 k2) :: (dC, dictOf (iniE hh tk0 n tn) 1) :: (140, tabObj ps) :: (147, tabObj qs) :: ex) := by
    have tE' := tE
    obtain ⟨a9, vs9, n9, e9, g9, p9⟩ := tE'
    cases e9
    cases hg : g.get? TE with
    | some ob =>
      refine ⟨[], fun h' k' _ => ⟨TE, vs9, n9, rfl, k' _ _ (by rw [hg, ← F2.keep _ _ hg, g9]), p9⟩, N2'⟩
    | none =>
      refine ⟨[(TE, tupOf vs9 n9)], fun h' _ k' => ⟨TE, vs9, n9, rfl, k' _ (.head _), p9⟩, fun p hp => ?_⟩
      rcases List.mem_append.mp (show p ∈ fD f fd dC q ls nl vs2 k2 hh tk0 n tn ps qs ++ [(TE, tupOf vs9 n9)] from hp) with hp | hp
      · exact N2' p hp
      · rw [List.mem_singleton.mp hp]; exact ⟨g9, fun q9 => tL tE (congrArg Value.ref q9), hg⟩
  have hA2g : AllAt (TupAt g) vs2 (cs2.map ckd) := by
    rcases hcs with ⟨q1, q2⟩ | ⟨-, q2, -, q4, -⟩
    · subst q1; subst q2
      have := hAg.dropLast
      rwa [List.map_append, List.map_cons, List.map_nil, List.dropLast_concat, List.dropLast_concat] at this
    · subst q2; subst q4; exact .nil
  clear F N N2' hA2
  walk1
  rename Heap => h2b; rename Fr _ _ _ _ => F2b; rename News _ _ _ _ => N2b
  dsimp only
  refine join_cons (NJ g L (fun y => if y = Str.ofString "end_of_line" then some (Value.ref TE) else List.lookup y [(Str.ofString "self", Value.ref f)]) s f fd dC q ls nl hh tk0 n tn ps qs (if ee = (Str.ofString " ", Str.ofString "") then cs2 else cs2 ++ [ee])) ?_ ?_
  · (repeat' (first | (fail_if_success with_reducible refine Nf.go (by constructor) ?_); (fail_if_success fail_if_success with_reducible refine Fd.go (by constructor) ?_; k_fold); refine (let qk := _; let ek := _; (?_ : wpAny _ _ _ qk ek _)) | (fail_if_success fail_if_success k_unfold); (first | with_reducible refine (?_ : wpAny _ _ _ _ _ _) | k_unfold); (try dsimp only); try clear qk ek | (fail_if_success with_reducible refine Stop.go (by constructor) ?_); first | walk1 | dsimp only; walk1))
    rename_i TB h3 F3 N3 l3
    have heok : PyData.strOk ee.1 = true ∧ PyData.strOk ee.2 = true := by
      rcases hcs with ⟨-, q9⟩ | ⟨-, -, -, -, q9⟩
      · exact hok ee (by rw [← q9]; simp)
      · subst q9; exact ⟨by decide +kernel, by decide +kernel⟩
    have tE3 : TupAt h3 (.ref TE) (ckd ee) := hex h3 F3.keep fun p hp => (N3 p (.tail _ (.tail _ (.tail _ (.tail _ (.tail _ (.tail _ (.tail _ (.tail _ hp))))))))).1
    have tB : TupAt h3 (.ref TB) (ckd (Str.ofString " ", Str.ofString "")) := ⟨TB, _, 0, rfl, (N3 _ (.head _)).1, .cons (.s _ _) (.cons (.s _ _) .nil)⟩
    refine ne_ck tE3 tB heok.1 heok.2 (by decide +kernel) (by decide +kernel) (by show un + 3 + 64 < cLine; simp only [cLine]; (clear hb hn hz hlz hdp p1 p2 p3 p4 p5 hcs l3 heok; lia)) ?_
    (repeat' (first | (fail_if_success with_reducible refine Nf.go (by constructor) ?_); (fail_if_success fail_if_success with_reducible refine Fd.go (by constructor) ?_; k_fold); refine (let qk := _; let ek := _; (?_ : wpAny _ _ _ qk ek _)) | (fail_if_success fail_if_success k_unfold); (first | with_reducible refine (?_ : wpAny _ _ _ _ _ _) | k_unfold); (try dsimp only); try clear qk ek | (fail_if_success with_reducible refine Stop.go (by constructor) ?_); first | walk1 | dsimp only; walk1))
    · rename_i heq
      refine NJ.mk F3 (fun p hp => N3 p (.tail _ (List.mem_append_left ex hp))) ?_
      rw [if_pos heq]
      exact hA2g.mono fun _ _ z => z.keeps F3.keep
    · rename ¬ _ => hne
      refine star_method ?_
      (repeat' (first | (fail_if_success with_reducible refine Nf.go (by constructor) ?_); (fail_if_success fail_if_success with_reducible refine Fd.go (by constructor) ?_; k_fold); refine (let qk := _; let ek := _; (?_ : wpAny _ _ _ qk ek _)) | (fail_if_success fail_if_success k_unfold); (first | with_reducible refine (?_ : wpAny _ _ _ _ _ _) | k_unfold); (try dsimp only); try clear qk ek | (fail_if_success with_reducible refine Stop.go (by constructor) ?_); first | walk1 | dsimp only; walk1))
      k_dflt (refine' bound_L (es := iniE hh tk0 n tn) (n := 1) F3 X1 N3 ?kI ?k1 ?k2 ?k3 ?k4 ?k5 ?k6 ?k7 ?k8 (by decide) (by k_get) ?_; (case kI => k_inst); (case k1 => k_is); (case k2 => k_is); (case k3 => k_is); (case k4 => k_is); (case k5 => k_is); (case k6 => k_is); (case k7 => k_is); (case k8 => k_is))
      intro qm h4 F4 N4 l4
      k_dflt (refine' callWith_MS (K := Mine.heapK w.params) (g := 122) (self := .ref q.cu) ?k1 ?_; (case k1 => k_is))
      clear F3 N3
      (repeat' (first | (fail_if_success with_reducible refine Nf.go (by constructor) ?_); (fail_if_success fail_if_success with_reducible refine Fd.go (by constructor) ?_; k_fold); refine (let qk := _; let ek := _; (?_ : wpAny _ _ _ qk ek _)) | (fail_if_success fail_if_success k_unfold); (first | with_reducible refine (?_ : wpAny _ _ _ _ _ _) | k_unfold); (try dsimp only); try clear qk ek | (fail_if_success with_reducible refine Stop.go (by constructor) ?_); first | walk1 | dsimp only; walk1))
      have tE4 : TupAt h4 (.ref TE) (ckd ee) := hex h4 F4.keep fun p hp => (N4 p (.tail _ (.tail _ (.tail _ (.tail _ (.tail _ (.tail _ (.tail _ (.tail _ (.tail _ hp)))))))))).1
      obtain ⟨a9, vs9, n9, e9, g9, p9⟩ := tE4
      cases e9
      obtain ⟨v1, v2, rfl⟩ := pvs_two p9
      refine star_tup g9 (by simp) fun h5 k5 => ⟨⟨k5 _ _ (N4 _ (.head _)).1, (X1.keeps F4.keep).keeps k5⟩, ?_⟩
      have F5 := F4.keeps k5
      have N5 := N4.grown k5
      clear F4 N4
      refine call_meth N5 (.head _) ?_
      have N5' : News g L h5 (fD f fd dC q ls nl vs2 k2 hh tk0 n tn ps qs) := fun p hp => N5 p (.tail _ (.tail _ (List.mem_append_left ex hp)))
      clear N5
      have a5 : FAt h5 f fd dC q ls nl vs2 k2 hh tk0 n tn ps qs := FAt.of N5' (fun p hp => hp) a.atp a.atq
      have hl2 : vs2.length ≤ vs.length := by
        rcases hcs with ⟨q1, -⟩ | ⟨-, q2, -, -, -⟩
        · rw [← q1]; simp
        · subst q2; simp
      refine push_code X1 T1 F5.keep a5.acu a5.adc (N5' _ (.tail _ (.tail _ (.tail _ (.head _))))).2.2 (N5' _ (.tail _ (.tail _ (.tail _ (.tail _ (.head _)))))).2.2 p5 (by (clear hb hn hlz hdp p1 p2 p3 p4 p5 hcs l3 heok hne; lia)) (by (clear hb hn hz hlz p1 p2 p3 p4 p5 hcs l3 heok hne hl2; omega)) (by (clear hb hn hz hlz hdp p1 p2 p3 p4 p5 hcs l3 heok hne hl2; omega)) fun h6 tk6 Tn k6 e6 eT => ?_
      have F6 := fr_kept F5 N5' k6 (fun b hb => by rw [List.mem_singleton.mp hb]; exact ⟨_, .tail _ (.tail _ (.tail _ (.head _)))⟩)
      have a6 := a5.cu' o k6 e6
      have N6 := a6.news N5' (fun p hp => hp)
      clear F5 N5'
      (repeat' (first | (fail_if_success with_reducible refine Nf.go (by constructor) ?_); (fail_if_success fail_if_success with_reducible refine Fd.go (by constructor) ?_; k_fold); refine (let qk := _; let ek := _; (?_ : wpAny _ _ _ qk ek _)) | (fail_if_success fail_if_success k_unfold); (first | with_reducible refine (?_ : wpAny _ _ _ _ _ _) | k_unfold); (try dsimp only); try clear qk ek | (fail_if_success with_reducible refine Stop.go (by constructor) ?_); first | walk1 | dsimp only; walk1))
      refine NJ.mk F6 N6 ?_
      rw [if_neg hne, List.map_append, List.map_cons, List.map_nil]
      exact (hA2g.mono fun _ _ z => z.keeps F6.keep).append (.cons ⟨Tn, _, 0, rfl, eT, p9⟩ .nil)
  · clear F2b N2b hex tE tL a2 a1 kp2 e2
    rintro _ ⟨F3, N3, hA3⟩
    rename_i h3 tk3 vs3 k3
    unfold fD at N3
    generalize hcs3 : (if ee = (Str.ofString " ", Str.ofString "") then cs2 else cs2 ++ [ee]) = cs3 at hA3
    have hnl : nlc cs = cs3 := by
      rw [← hcs3]
      rcases hcs with ⟨-, q2⟩ | ⟨-, -, q3, q4, q5⟩
      · rw [← q2, nlc_snoc]
      · subst q3; subst q4; subst q5
        rw [if_neg (by decide +kernel)]
        rfl
    rw [hnl] at how ret
    refine join_cons (NJ2 g L (fun y => if y = Str.ofString "end_of_line" then some (Value.ref TE) else List.lookup y [(Str.ofString "self", Value.ref f)]) s f fd dC q hh tk0 n tn (if 0 < n + tlen cs3 then LS ++ [ctxt cs3] else LS) (vs.length + 1)) ?_ ?_
    · (repeat' (first | (fail_if_success with_reducible refine Nf.go (by constructor) ?_); (fail_if_success fail_if_success with_reducible refine Fd.go (by constructor) ?_; k_fold); refine (let qk := _; let ek := _; (?_ : wpAny _ _ _ qk ek _)) | (fail_if_success fail_if_success k_unfold); (first | with_reducible refine (?_ : wpAny _ _ _ _ _ _) | k_unfold); (try dsimp only); try clear qk ek | (fail_if_success with_reducible refine Stop.go (by constructor) ?_); first | walk1 | dsimp only; walk1))
      k_dflt (refine' len_K F3 X1 ?kI ?k1 ?k2 ?_; (case kI => k_inst); (case k1 => k_is); (case k2 => k_is))
      show wpAny _ (amb (dp + 1) (un + 4) gd fr') _ _ _ _
      have htl : tlen cs3 ≤ 1000000 := by
        rw [← hcs3]
        have hcons : ∀ (l : List (Str × Str)) (x : Str × Str), tlen (l ++ [x]) = tlen l + clen x := fun l x => by simp [tlen, Int.add_comm]
        rcases hcs with ⟨-, q2⟩ | ⟨-, -, -, q4, q5⟩
        · have := clen_nn ee
          rw [← q2, hcons] at hb
          split
          · (clear hn hz hlz hdp p1 p2 p3 p4 p5; lia)
          · rw [hcons]; (clear hn hz hlz hdp p1 p2 p3 p4 p5 this; omega)
        · subst q4; subst q5
          split
          · simp [tlen]
          · have e0 : clen (Str.ofString "", Str.ofString "") = 0 := by decide +kernel
            rw [hcons, e0]; simp [tlen]
      have hl3 : vs3.length ≤ vs.length + 1 := by
        have h8 := hA3.length
        have h9 := hA.length
        rw [← hcs3] at h8
        rcases hcs with ⟨q1, q2⟩ | ⟨q1, -, q3, q4, -⟩
        · rw [← q2] at h9
          split at h8 <;> simp only [List.length_map, List.length_append, List.length_cons, List.length_nil] at h8 h9 <;> (clear hb hn hz hlz hdp p1 p2 p3 p4 p5 htl; lia)
        · subst q4
          split at h8 <;> simp only [List.length_map, List.length_append, List.length_cons, List.length_nil] at h8 <;> (clear hb hn hlz hdp p1 p2 p3 p4 p5 htl; lia)
      have a3 : FAt h3 f fd dC q ls nl vs3 k3 hh tk0 n tn ps qs := FAt.of N3 (fun p hp => hp) a.atp a.atq
      have z3 := (N3 _ (.tail _ (.tail _ (.tail _ (.head _))))).2.2
      have z4 := (N3 _ (.tail _ (.tail _ (.tail _ (.tail _ (.head _)))))).2.2
      have z5 := (N3 _ (.tail _ (.tail _ (.tail _ (.tail _ (.tail _ (.head _))))))).2.2
      have z6 := (N3 _ (.tail _ (.tail _ (.tail _ (.tail _ (.tail _ (.tail _ (.head _)))))))).2.2
      refine len_spec (cs := cs3) X1 T1 F3.keep a3.acu a3.adc z3 z4 p5 (by (clear hb hn hz hlz hdp p5 hcs htl hl3; lia)) a3.ap z5 a3.atp G hA3 htl hn (by (clear hb hn hz hlz p1 p2 p3 p4 p5 hcs htl hl3; omega)) (by (clear hb hn hz hlz hdp p1 p2 p3 p4 p5 hcs htl hl3; omega)) fun t4 h4 g4 tk4 ps4 k4 e4 ht4 G4 => ?_
      have F4 := Fr.re1 F3 N3 k4 (.tail _ (.tail _ (.tail _ (.tail _ (.tail _ (.head _))))))
      have a4 := a3.p' o k4 e4 ht4
      have N4 := a4.news N3 (fun p hp => hp)
      have hA4 : AllAt (TupAt h4) vs3 (cs3.map ckd) := hA3.mono fun _ _ z => tup_kept z k4 N3 (fun b hb => by rw [List.mem_singleton.mp hb]; exact ⟨_, .tail _ (.tail _ (.tail _ (.tail _ (.tail _ (.head _))))), by simp⟩)
      have nn := tlen_nn cs3
      clear F3 N3
      unfold fD at N4
      refine ⟨⟨by (clear hb hz hlz hdp p1 p2 p3 p4 p5 hcs hl3; lia), by (clear hb hz hlz hdp p1 p2 p3 p4 p5 hcs hl3; omega)⟩, ?_⟩
      (repeat' (first | (fail_if_success with_reducible refine Nf.go (by constructor) ?_); (fail_if_success fail_if_success with_reducible refine Fd.go (by constructor) ?_; k_fold); refine (let qk := _; let ek := _; (?_ : wpAny _ _ _ qk ek _)) | (fail_if_success fail_if_success k_unfold); (first | with_reducible refine (?_ : wpAny _ _ _ _ _ _) | k_unfold); (try dsimp only); try clear qk ek | (fail_if_success with_reducible refine Stop.go (by constructor) ?_); first | walk1 | dsimp only; walk1))
      · rename 0 < n + _ => hgt
        try dsimp only
        refine onlyws_spec (cs := cs3) X1 T1 F4.keep a4.acu a4.adc z3 z4 p5 (by (clear hb hn hz hlz hdp p5 hcs htl hl3 nn hgt; omega)) (by (clear hb hn hlz hdp p1 p2 p3 p4 p5 hcs htl nn hgt; lia)) a4.ap z5 a4.atp a4.aq z6 a4.atq G4 hA4 htl hn (by (clear hb hn hz hlz p1 p2 p3 p4 p5 hcs htl hl3 nn hgt; omega)) (by (clear hb hn hz hlz hdp p1 p2 p3 p4 p5 hcs htl hl3 nn hgt; omega)) fun h5 g5 tk5 ps5 qs5 k5 e5 t5 e5' t5' G5 => ?_
        rw [how]
        have F5 := Fr.re2 F4 N4 k5 (.tail _ (.tail _ (.tail _ (.tail _ (.tail _ (.head _)))))) (.tail _ (.tail _ (.tail _ (.tail _ (.tail _ (.tail _ (.head _)))))))
        have a5 := a4.pq' o k5 e5 t5 e5' t5'
        have N5 := a5.news N4 (fun p hp => hp)
        have hA5 : AllAt (TupAt h5) vs3 (cs3.map ckd) := hA4.mono fun _ _ z => tup_kept z k5 N4 (fun b hb => by
          rcases List.mem_cons.mp hb with rfl | hb
          · exact ⟨_, .tail _ (.tail _ (.tail _ (.tail _ (.tail _ (.head _))))), by simp⟩
          · rw [List.mem_singleton.mp hb]; exact ⟨_, .tail _ (.tail _ (.tail _ (.tail _ (.tail _ (.tail _ (.head _)))))), by simp⟩)
        clear F4 N4
        unfold fD at N5
        (repeat' (first | (fail_if_success with_reducible refine Nf.go (by constructor) ?_); (fail_if_success fail_if_success with_reducible refine Fd.go (by constructor) ?_; k_fold); refine (let qk := _; let ek := _; (?_ : wpAny _ _ _ qk ek _)) | (fail_if_success fail_if_success k_unfold); (first | with_reducible refine (?_ : wpAny _ _ _ _ _ _) | k_unfold); (try dsimp only); try clear qk ek | (fail_if_success with_reducible refine StopT.go (by constructor) ?_); (fail_if_success with_reducible refine Stop.go (by constructor) ?_); first | walk1 | dsimp only; walk1))
        k_dflt (refine' kso_call ?hu (X1.keeps F5.keep) ?kI ?k1 ?k2 ?_; (case hu => show un + 3 + 1 + 1 < cLine; simp only [cLine]; (clear hb hn hz hlz hdp p1 p2 p3 p4 p5 hcs htl hl3 nn hgt; lia)); (case kI => k_inst); (case k1 => k_is); (case k2 => k_is))
        show wpAny _ (amb (dp + 1) (un + 5) gd fr') _ _ _ _
        refine str_spec (cs := cs3) X1 T1 F5.keep a5.acu a5.adc z3 z4 p5 (by (clear hb hn hz hlz hdp p5 hcs htl hl3 nn hgt; omega)) (by (clear hb hn hlz hdp p1 p2 p3 p4 p5 hcs htl nn hgt; omega)) a5.aq z6 a5.atq G5 hA5 htl hn (by (clear hb hn hz hlz p1 p2 p3 p4 p5 hcs htl hl3 nn hgt; omega)) (by (clear hb hn hz hlz hdp p1 p2 p3 p4 p5 hcs htl hl3 nn hgt; omega)) fun t6 h6 g6 tk6 qs6 k6 e6 t6' G6 => ?_
        have F6 := Fr.re1 F5 N5 k6 (.tail _ (.tail _ (.tail _ (.tail _ (.tail _ (.tail _ (.head _)))))))
        have a6 := a5.q' o k6 e6 t6'
        have N6 := a6.news N5 (fun p hp => hp)
        clear F5 N5
        unfold fD at N6
        dsimp only [StrBack]
        (repeat' (first | (fail_if_success with_reducible refine Nf.go (by constructor) ?_); (fail_if_success fail_if_success with_reducible refine Fd.go (by constructor) ?_; k_fold); refine (let qk := _; let ek := _; (?_ : wpAny _ _ _ qk ek _)) | (fail_if_success fail_if_success k_unfold); (first | with_reducible refine (?_ : wpAny _ _ _ _ _ _) | k_unfold); (try dsimp only); try clear qk ek | (fail_if_success with_reducible refine Stop.go (by constructor) ?_); first | walk1 | dsimp only; walk1))
        refine append_K F6 N6 (by k_upd) (fun h7 F7 N7 => ?_) (by rw [List.size_toArray, sizeLine_eq]; (clear hb hn hz hdp p1 p2 p3 p4 p5 hcs htl hl3 nn hgt; lia))
        have N7' : News g L h7 (fD f fd dC q (ls ++ [.str (ctxt cs3) t6]) (nl + 1) vs3 k3 hh tk0 n tn ps5 qs6) := by simpa [fD] using N7
        clear F6 N6 N7
        (repeat' (first | (fail_if_success with_reducible refine Nf.go (by constructor) ?_); (fail_if_success fail_if_success with_reducible refine Fd.go (by constructor) ?_; k_fold); refine (let qk := _; let ek := _; (?_ : wpAny _ _ _ qk ek _)) | (fail_if_success fail_if_success k_unfold); (first | with_reducible refine (?_ : wpAny _ _ _ _ _ _) | k_unfold); (try dsimp only); try clear qk ek | (fail_if_success with_reducible refine Stop.go (by constructor) ?_); first | walk1 | dsimp only; walk1))
        rw [if_pos (by (clear hb hn hz hlz hdp p1 p2 p3 p4 p5 hcs htl hl3 nn; omega))]
        exact NJ2.mk F7 N7' t5 t6' G6 (hLS.snoc _ _) hl3
      · rw [if_neg (by (clear hb hn hz hlz hdp p1 p2 p3 p4 p5 hcs htl hl3 nn; omega))]
        exact NJ2.mk F4 N4 ht4 a.atq G4 hLS hl3
    · rintro _ ⟨F6, N6, hp6, hq6, G6, hL6, hv6⟩
      rename_i h6 g6 tk6 ls6 nl6 vs6 k6 ps6 qs6
      have a6 : FAt h6 f fd dC q ls6 nl6 vs6 k6 hh tk0 n tn ps6 qs6 := FAt.of N6 (fun p hp => hp) hp6 hq6
      have z3 := (N6 _ (.tail _ (.tail _ (.tail _ (.head _))))).2.2
      have z4 := (N6 _ (.tail _ (.tail _ (.tail _ (.tail _ (.head _)))))).2.2
      unfold fD at N6
      (repeat' (first | (fail_if_success with_reducible refine Nf.go (by constructor) ?_); (fail_if_success fail_if_success with_reducible refine Fd.go (by constructor) ?_; k_fold); refine (let qk := _; let ek := _; (?_ : wpAny _ _ _ qk ek _)) | (fail_if_success fail_if_success k_unfold); (first | with_reducible refine (?_ : wpAny _ _ _ _ _ _) | k_unfold); (try dsimp only); try clear qk ek | (fail_if_success with_reducible refine Stop.go (by constructor) ?_); first | walk1 | dsimp only; walk1))
      try dsimp only
      refine reset0_spec X1 T1 F6.keep a6.acu a6.adc z3 z4 p5 (by (clear hb hn hlz hdp p1 p2 p3 p4 p5 hcs; lia)) (by (clear hb hn hz hlz p1 p2 p3 p4 p5 hcs hv6; omega)) (by (clear hb hn hz hlz hdp p1 p2 p3 p4 p5 hcs hv6; omega)) fun h7 tk7 k7 tn7 kp7 e7 d7 => ?_
      have F7 := fr_kept F6 N6 kp7 (fun b hb => by
        rcases List.mem_cons.mp hb with rfl | hb
        · exact ⟨_, .tail _ (.tail _ (.tail _ (.head _)))⟩
        · rw [List.mem_singleton.mp hb]; exact ⟨_, .tail _ (.tail _ (.tail _ (.tail _ (.head _))))⟩)
      have a7 := a6.cd' o kp7 e7 d7
      clear N6 F6
      (repeat' (first | (fail_if_success with_reducible refine Nf.go (by constructor) ?_); (fail_if_success fail_if_success with_reducible refine Fd.go (by constructor) ?_; k_fold); refine (let qk := _; let ek := _; (?_ : wpAny _ _ _ qk ek _)) | (fail_if_success fail_if_success k_unfold); (first | with_reducible refine (?_ : wpAny _ _ _ _ _ _) | k_unfold); (try dsimp only); try clear qk ek | (fail_if_success with_reducible refine Stop.go (by constructor) ?_); first | walk1 | dsimp only; walk1))
      refine ret h7 g6 _ ls6 nl6 k7 ps6 qs6 tn7 (keep_of (fun r hr => (a.all o r hr).1) KP F7.keep fun r hr hn' => ?_) a7 hL6 G6
      simp only [fD, List.mem_cons, List.not_mem_nil, or_false] at hr
      rcases hr with rfl | rfl | rfl | rfl | rfl | rfl | rfl
      · exact a7.af
      · exact a7.afd
      all_goals exact absurd (by simp) hn'

end
section
variable {w : World} {mg mb : Str → Option Value} {mean : ExcName → Option Value} {dp un : Nat} {gd : Option (List Code)} {fr : List Env} {base : Heap} {s : Shared} {Q E : Value → Shared → Prop}
theorem fstr_spec
  {f fd dC : Addr} {q : FK} {ls : List Value} {LS : List Str} {nl : Nat} {vs : List Value} {cs : List (Str × Str)} {k : Nat} {hh : Int} {tk0 : Tok} {n : Int} {tn : Tok} {ps qs : Array Value} {sep : Str} {tsep : Tok}
  (X : (Mine.heapK w.params).In base) (T : Top topProg GL mean mg mb base) (hS : base.StaysIn s.heap) (G : AllBare s.gens)
  (a : FAt s.heap f fd dC q ls nl vs k hh tk0 n tn ps qs) (o : FOff base f fd dC q)
  (hA : AllAt (TupAt s.heap) vs (cs.map ckd)) (hb : tlen cs ≤ 1000000) (hn : 0 ≤ n ∧ n ≤ 1000000) (hz : vs.length < 10000) (hok : ∀ c ∈ cs, PyData.strOk c.1 = true ∧ PyData.strOk c.2 = true) (hLS : StrsAre ls LS) (hlz : ls.length < 100000)
  (how : (decide (n = 0) && (decide (tlen (nlc cs) = 0) || Txt.isspace (ctxt (nlc cs)))) = false)
  (hjo : JoinOk sep (if 0 < n + tlen (nlc cs) then LS ++ [ctxt (nlc cs)] else LS) = true)
  (hdp : dp < 500) (hu : un < 600)
  (ret : ∀ h' g' tk' t', Keep [q.ln, q.cu, dC, 140, 147] s.heap h' → (∃ ps' qs', h'.get? 140 = some (tabObj ps') ∧ TabOk posLen ps' ∧ h'.get? 147 = some (tabObj qs') ∧ TabOk posStr qs') → AllBare g' → Q (.str (Txt.join sep (if 0 < n + tlen (nlc cs) then LS ++ [ctxt (nlc cs)] else LS)) t') { s with heap := h', gens := g', toks := tk' }) :
  wpAny (model PySem.Challenge.rw_ik0220_02.row.prog w) (amb dp un gd fr) (call (.ref 42) [.ref f, .str sep tsep]) Q E s := by
  revert X; k_fill; intro X
  obtain ⟨p1, p2, p3, p4, p5⟩ := (⟨o.o1, o.o2, o.o3, o.o4, o.o5⟩ : _ ∧ _ ∧ _ ∧ _ ∧ _)
  refine wpAny_call ?_
  k_dflt (refine' enterF [(Str.ofString "linesep", .str sep tsep), (Str.ofString "self", .ref f)] (fD f fd dC q ls nl vs k hh tk0 n tn ps qs) ?kX ?kT hS ?kD ?kho ?khcd ?kroom ?kb ?kl ?kr ?_ ?c1 ?c2 ?c3 ?c4; (
  (case kX => assumption); (case kT => assumption); (case kho => k_is); (case khcd => k_is); (case kb => first | exact BindsTo.of_eq rfl | exact binds_K (by k_in) rfl (by k_is) rfl rfl rfl);
  (case kl => exact locs rfl); (case kr => exact rfl); (case c1 => exact rfl); (case c2 => exact rfl); (case c3 => exact rfl); (case c4 => first | decide | exact fun _ => rfl); (case kroom => first | exact rm0 hdp rfl | (simp only [recursionLimit]; omega))); (case kD => exact a.all o))
  intro g L h1 fr' tk F N X1 T1 KP LTs
  refine (let aA := _; let eN := _; let qk := _; let ek := _; (?_ : wpAny _ aA (execs _ eN) qk ek _))
  have a1 : FAt h1 f fd dC q ls nl vs k hh tk0 n tn ps qs := FAt.of N (fun p hp => hp) a.atp a.atq
  have hAg : AllAt (TupAt g) vs (cs.map ckd) := hA.mono fun v d' z => z.kept KP fun b hb' ob ho => by
    obtain ⟨r, hr, rfl⟩ := List.mem_map.mp hb'
    have e9 := (a.all o r hr).1
    rw [e9] at ho; cases ho
    simp only [fD, List.mem_cons, List.not_mem_nil, or_false] at hr
    rcases hr with rfl | rfl | rfl | rfl | rfl | rfl | rfl <;> simp
  have o1 : FOff g f fd dC q := ⟨(N _ (.head _)).2.2, (N _ (.tail _ (.head _))).2.2, (N _ (.tail _ (.tail _ (.head _)))).2.2, (N _ (.tail _ (.tail _ (.tail _ (.head _))))).2.2, (N _ (.tail _ (.tail _ (.tail _ (.tail _ (.head _)))))).2.2, (N _ (.tail _ (.tail _ (.tail _ (.tail _ (.tail _ (.head _))))))).2.2, (N _ (.tail _ (.tail _ (.tail _ (.tail _ (.tail _ (.tail _ (.head _)))))))).2.2, p1, p2, p3, p4, p5⟩
  unfold fD at N
  (repeat' (first | (fail_if_success fail_if_success k_unfold); (first | with_reducible refine (?_ : wpAny _ _ _ _ _ _) | k_unfold); try dsimp only | (with_reducible show wpAny _ _ (storeName _ _ _) _ _ _); (try dsimp only); walk1 | (fail_if_success with_reducible refine Stop.go (by constructor) ?_); first | walk1 | dsimp only; walk1))
  try dsimp only
  refine newline_spec (cs := cs) X1 T1 F.keep G a1 o1 (hAg.mono fun _ _ z => z.keeps F.keep) hb hn hz hok hLS hlz how (by (clear hb hn hz hlz p1 p2 p3 p4 p5; omega)) (by (clear hb hn hz hlz hdp p1 p2 p3 p4 p5; omega)) fun h2 g2 tk2 ls2 nl2 k2 ps2 qs2 tn2 kp2 a2 hL2 G2 => ?_
  have F2 := fr_kept F N kp2 (fun b hb => by
    simp only [List.mem_cons, List.not_mem_nil, or_false] at hb
    rcases hb with rfl | rfl | rfl | rfl | rfl
    · exact ⟨_, .tail _ (.tail _ (.head _))⟩
    · exact ⟨_, .tail _ (.tail _ (.tail _ (.head _)))⟩
    · exact ⟨_, .tail _ (.tail _ (.tail _ (.tail _ (.head _))))⟩
    · exact ⟨_, .tail _ (.tail _ (.tail _ (.tail _ (.tail _ (.head _)))))⟩
    · exact ⟨_, .tail _ (.tail _ (.tail _ (.tail _ (.tail _ (.tail _ (.head _))))))⟩)
  have N2 := a2.news N (fun p hp => hp)
  clear F N
  unfold fD at N2
  (repeat' (first | (fail_if_success fail_if_success k_unfold); (first | with_reducible refine (?_ : wpAny _ _ _ _ _ _) | k_unfold); try dsimp only | (with_reducible show wpAny _ _ (storeName _ _ _) _ _ _); (try dsimp only); walk1 | (fail_if_success with_reducible refine Stop.go (by constructor) ?_); first | walk1 | dsimp only; walk1))
  obtain ⟨l9, el, em⟩ := hL2.values
  refine SC.join (l := l9) ⟨_, a2.aln, rfl, _, by rw [el]⟩ em hjo fun t9 k9 => ?_
  refine ret h2 g2 _ t9 (keep_of (fun r hr => (a.all o r hr).1) KP F2.keep fun r hr hn' => ?_) ⟨ps2, qs2, a2.ap, a2.atp, a2.aq, a2.atq⟩ G2
  simp only [fD, List.mem_cons, List.not_mem_nil, or_false] at hr
  rcases hr with rfl | rfl | rfl | rfl | rfl | rfl | rfl
  · exact a2.af
  · exact a2.afd
  all_goals exact absurd (by simp) hn'

end
theorem all_tail2 {g h : Heap} {L : Addr} {m : Str → Option Value} {vs : List Value} {ds : List (List Pv)} (F : Fr g L h m) (z : AllAt (TupAt h) vs ds) :
    ∃ ex : List (Addr × Obj), (∀ h', (∀ b ob, g.get? b = some ob → h'.get? b = some ob) → (∀ p ∈ ex, h'.get? p.1 = some p.2) → AllAt (TupAt h') vs ds) ∧ News g L h ex ∧ ∀ p ∈ ex, p.2.cls = .type "tuple" := by
  induction z with
  | nil => exact ⟨[], fun _ _ _ => .nil, (fun _ hp => no_mem hp), fun _ hp => no_mem hp⟩
  | cons t _ ih =>
    obtain ⟨ex, hex, Nx, Cx⟩ := ih
    obtain ⟨a9, vs9, n9, e9, g9, p9⟩ := t
    have tL : a9 ≠ L := fun q => by
      obtain ⟨oL, es, ep, hl, hdL, -⟩ := F.ns
      rw [← q] at hl
      rw [hl] at g9; cases g9; cases hdL
    cases hg : g.get? a9 with
    | some ob => exact ⟨ex, fun h' k' kx => .cons ⟨a9, vs9, n9, e9, k' _ _ (by rw [hg, ← F.keep _ _ hg, g9]), p9⟩ (hex h' k' kx), Nx, Cx⟩
    | none =>
      refine ⟨(a9, tupOf vs9 n9) :: ex, fun h' k' kx => .cons ⟨a9, vs9, n9, e9, kx _ (.head _), p9⟩ (hex h' k' fun p hp => kx p (.tail _ hp)), fun p hp => ?_, fun p hp => ?_⟩
      · rcases List.mem_cons.mp hp with rfl | hp
        · exact ⟨g9, tL, hg⟩
        · exact Nx p hp
      · rcases List.mem_cons.mp hp with rfl | hp
        · rfl
        · exact Cx p hp
theorem all_tail {g h : Heap} {L : Addr} {m : Str → Option Value} {vs : List Value} {ds : List (List Pv)} (F : Fr g L h m) (z : AllAt (TupAt h) vs ds) :
    ∃ ex : List (Addr × Obj), (∀ h', (∀ b ob, g.get? b = some ob → h'.get? b = some ob) → (∀ p ∈ ex, h'.get? p.1 = some p.2) → AllAt (TupAt h') vs ds) ∧ News g L h ex :=
  let ⟨ex, a, b, _⟩ := all_tail2 F z
  ⟨ex, a, b⟩
theorem News.app {g h : Heap} {L : Addr} {xs ys : List (Addr × Obj)} (a : News g L h xs) (b : News g L h ys) : News g L h (xs ++ ys) := fun p hp => by
  rcases List.mem_append.mp hp with hp | hp
  · exact a p hp
  · exact b p hp
theorem iter_tail {prog : Program} {w : World} {A : Around} {I : Addr} {wr : List Addr} {n i : Nat} {P : Nat → Value → Prop} {St : Nat → Heap → Prop} {g h : Heap} {L : Addr} (W : Walks prog w A I [I] wr n P St) (st : St i h) (hg : g.get? I = none) (hL : I ≠ L) :
    ∃ ex : List (Addr × Obj), (∀ h', (∀ p ∈ ex, h'.get? p.1 = some p.2) → St i h') ∧ News g L h ex := by
  cases e : h.get? I with
  | none => exact ⟨[], fun h' _ => W.frame _ _ _ st (fun b hb o ho => by rw [List.mem_singleton.mp hb, e] at ho; cases ho), fun _ hp => no_mem hp⟩
  | some oI =>
    refine ⟨[(I, oI)], fun h' k => W.frame _ _ _ st (fun b hb o ho => ?_), fun p hp => ?_⟩
    · rw [List.mem_singleton.mp hb] at ho ⊢
      rw [e] at ho; cases ho
      exact k _ (.head _)
    · rw [List.mem_singleton.mp hp]; exact ⟨e, hL, hg⟩
theorem iter_str {prog : Program} {w : World} {A : Around} {E : Value → Shared → Prop} {s : Shared} {x : Str} {t : Tok} {Q : Value → Shared → Prop}
    (hQ : ∀ (o : Obj) (St : Nat → Heap → Prop), o.isFreed = false → (∀ A' : Around, A'.handled = none → Walks prog w A' s.heap.objs.size [s.heap.objs.size] [s.heap.objs.size] x.cps.size (SignAt x) St) → St 0 (s.heap.push o) →
      Q (.ref s.heap.objs.size) { s with heap := s.heap.push o }) : wpAny (model prog w) A (pyIter (.str x t)) Q E s := by
  cases ha : x.cps.all (· < 128)
  · exact wpAny_pyIter_wide ha (hQ _ _ rfl (fun A' hA => Walks.strWide hA _ x t) ⟨_, Heap.get?_push_size _ rfl, rfl, rfl⟩)
  · exact wpAny_pyIter_ascii ha (hQ _ _ rfl (fun A' hA => Walks.strAscii hA _ x t) ⟨_, Heap.get?_push_size _ rfl, rfl, rfl⟩)
theorem range_down (m : Nat) : Builtin.Range.rangeSize ((m : Int) - 1) 0 (-1) = ((m - 1 : Nat) : Int) := by
  unfold Builtin.Range.rangeSize
  simp
  lia
theorem small_down (m : Nat) (h : m < 100000) : Builtin.Range.small ((m : Int) - 1) 0 (-1) = true := by
  unfold Builtin.Range.small
  rw [range_down]
  simp [Builtin.Range.rangeFitsLong]
  omega
section
variable {prog : Program} {w : World} {A : Around} {E : Value → Shared → Prop} {s : Shared} {K : Frag} {c C : Addr} {o : Obj} {od : Option Obj} {vs : List Value} {n i : Nat} {ti : Tok}
theorem gi_list {B : Around} {v : Value} {j : Int} {Q : Value → Shared → Prop} (ho : s.heap.get? c = some o) (hd : o.data = .seq vs.toArray n) (h0 : 0 ≤ j) (hfit : j < 2 ^ 63) (hx : vs.toArray[j.toNat]? = some v) (h : Q v s) : wpAny (model prog w) B (Builtin.«list.__getitem__» ⟨[.ref c, .int j ti], []⟩) (fun fin s' => ∃ r, fin = .done (.ret r) ∧ Q r s') E s :=
  getitem_int_tree ho hd h0 hfit hx ⟨v, rfl, h⟩
theorem sub_at {value slice : PySem.Expr} {ops : List Value} {v : Value} {j : Int} {Q : Value → Shared → Prop} (X : K.In s.heap) (I : InstAt s.heap c o C od) (hm : mroIn K C (.type "list") = some true) (hq : noSeq K C = true) (hs : findIn K (.ref C) "__getitem__" = some (some (.builtin "list.__getitem__")))
    (hd : o.data = .seq vs.toArray n) (h0 : 0 ≤ j) (hfit : j < 2 ^ 63) (hx : vs.toArray[j.toNat]? = some v) (h : Q v s)
    (hsub : subscripted slice false (.ref c) (.int j ti) = operate ops (getItem (.ref c) (.int j ti)) := by with_unfolding_all rfl) : wpAny (model prog w) A (subscriptTail value slice (.ref c) (.int j ti)) Q E s :=
  sub_bi X I hm hq hs hsub (gi_list I.at_ hd h0 hfit hx h)
theorem sub_tup {value slice : PySem.Expr} {t : Addr} {items : Array Value} {k : Int} {u : Tok} {j : Nat} {x : Value} {Q : Value → Shared → Prop} (ht : IsTup s.heap t items) (hlo : -(2 ^ 63) ≤ k) (hhi : k < 2 ^ 63) (hj : seqIndex? k items.size = some j) (hx : items[j]? = some x) (h : Q x s)
    (hs : subscripted slice false (.ref t) (.int k u) = operate [.ref t, .int k u] (getItem (.ref t) (.int k u)) := by with_unfolding_all rfl) :
    wpAny (model prog w) A (subscriptTail value slice (.ref t) (.int k u)) Q E s :=
  tail_any (PySem.Heap.IsTuple.typeIs ht) slot_tuple_getitem.lookup (getItem_tuple ht hlo hhi hj hx h) hs
end
noncomputable def endsC (ch : Nat) (c : Str × Str) : Bool := c.2.cps.back? == some ch
noncomputable def innR (cs : List (Str × Str)) (ch : Nat) : Nat → Option Nat
  | 0 => none
  | k + 1 => match cs[k]? with
    | some c => if endsC ch c then some (k + 1) else innR cs ch k
    | none => innR cs ch k
noncomputable def cutAt (cs : List (Str × Str)) : List Nat → Option Nat
  | [] => none
  | ch :: r => match innR cs ch (cs.length - 1) with
    | some i => some i
    | none => cutAt cs r
theorem cutAt_some {cs : List (Str × Str)} {r : Nat} : ∀ {l : List Nat} {i : Nat} {ch : Nat}, l[i]? = some ch → (∀ (j : Nat), j < i → ∀ c : Nat, l[j]? = some c → innR cs c (cs.length - 1) = none) → innR cs ch (cs.length - 1) = some r → cutAt cs l = some r
  | [], i, ch, h, _, _ => by simp at h
  | c :: l, 0, ch, h, _, k => by
    simp at h; subst h
    simp [cutAt, k]
  | c :: l, i + 1, ch, h, n, k => by
    have e := n 0 (Nat.succ_pos i) c rfl
    simp only [cutAt, e]
    exact cutAt_some (i := i) (by simpa using h) (fun j hj c' hc => n (j + 1) (by lia) c' (by simpa using hc)) k
theorem cutAt_none {cs : List (Str × Str)} : ∀ {l : List Nat}, (∀ (j : Nat) (c : Nat), l[j]? = some c → innR cs c (cs.length - 1) = none) → cutAt cs l = none
  | [], _ => rfl
  | c :: l, n => by
    have e := n 0 c rfl
    simp only [cutAt, e]
    exact cutAt_none fun j c' hc => n (j + 1) c' (by simpa using hc)
noncomputable def chunkR (sp : Str) (mx : Int) (LS : List Str) (cs : List (Str × Str)) (n : Int) (c : Str × Str) : List Str × List (Str × Str) × Int :=
  if n + tlen (cs ++ [c]) ≤ mx then (LS, cs ++ [c], n) else
  match cutAt (cs ++ [c]) sp.cps.toList with
  | some i => (LS ++ [ctxt ((cs ++ [c]).take i)], (cs ++ [c]).drop i, 0)
  | none => if 0 < n then (if 0 < n + tlen (nlc cs) then LS ++ [ctxt (nlc cs)] else LS, [(if c.1 = Str.ofString "" then Str.ofString " " else c.1, c.2)], 0) else (LS, cs ++ [c], n)
section
variable {sp : Str} {mx : Int} {LS : List Str} {cs cs2 : List (Str × Str)} {n : Int} {c : Str × Str}
theorem chunkR_fit (e : cs ++ [c] = cs2) (h : n + tlen cs2 ≤ mx) : chunkR sp mx LS cs n c = (LS, cs2, n) := by subst e; unfold chunkR; rw [if_pos h]
theorem chunkR_cut {i : Nat} (e : cs ++ [c] = cs2) (h : ¬ n + tlen cs2 ≤ mx) (k : cutAt cs2 sp.cps.toList = some i) : chunkR sp mx LS cs n c = (LS ++ [ctxt (cs2.take i)], cs2.drop i, 0) := by subst e; unfold chunkR; rw [if_neg h, k]
theorem chunkR_old (e : cs ++ [c] = cs2) (h : ¬ n + tlen cs2 ≤ mx) (k : cutAt cs2 sp.cps.toList = none) (hn : ¬ 0 < n) : chunkR sp mx LS cs n c = (LS, cs2, n) := by subst e; unfold chunkR; rw [if_neg h, k]; exact if_neg hn
theorem chunkR_new {w : Str} (e : cs ++ [c] = cs2) (h : ¬ n + tlen cs2 ≤ mx) (k : cutAt cs2 sp.cps.toList = none) (hn : 0 < n) (hw : (if c.1 = Str.ofString "" then Str.ofString " " else c.1) = w) : chunkR sp mx LS cs n c = (if 0 < n + tlen (nlc cs) then LS ++ [ctxt (nlc cs)] else LS, [(w, c.2)], 0) := by subst e; subst hw; unfold chunkR; rw [if_neg h, k]; exact if_pos hn
end
theorem FAt.keepOf {h h' g base : Heap} {f fd dC : Addr} {q : FK} {ls ls' : List Value} {nl nl' : Nat} {vs vs' : List Value} {k k' : Nat} {hh hh' : Int} {tk0 tk0' : Tok} {n n' : Int} {tn tn' : Tok} {ps qs ps' qs' : Array Value}
    (a : FAt h f fd dC q ls nl vs k hh tk0 n tn ps qs) (o : FOff base f fd dC q) (KP : Keep ((fD f fd dC q ls nl vs k hh tk0 n tn ps qs).map Prod.fst) h g) (kg : ∀ b o, g.get? b = some o → h'.get? b = some o) (a' : FAt h' f fd dC q ls' nl' vs' k' hh' tk0' n' tn' ps' qs') : Keep [q.ln, q.cu, dC, 140, 147] h h' := by
  refine keep_of (fun r hr => (a.all o r hr).1) KP kg fun r hr hn' => ?_
  simp only [fD, List.mem_cons, List.not_mem_nil, or_false] at hr
  rcases hr with rfl | rfl | rfl | rfl | rfl | rfl | rfl
  · exact a'.af
  · exact a'.afd
  all_goals exact absurd (by simp) hn'
theorem innR_hit {cs : List (Str × Str)} {ch t : Nat} {c : Str × Str} (hc : cs[t]? = some c) (he : endsC ch c = true) : innR cs ch (t + 1) = some (t + 1) := by simp [innR, hc, he]
theorem innR_miss {cs : List (Str × Str)} {ch t : Nat} {c : Str × Str} (hc : cs[t]? = some c) (he : endsC ch c = false) : innR cs ch (t + 1) = innR cs ch t := by simp [innR, hc, he]
theorem item_last {x : Str} {ch : Nat} (h : x.length ≠ 0) : (Txt.item x (-1) == ⟨#[ch]⟩) = (x.cps.back? == some ch) := by
  have hs : seqIndex? (-1) x.length = some (x.length - 1) := by
    unfold seqIndex?
    simp
    lia
  have hc : Txt.charAt x (-1) = x.cps.back? := by
    unfold Txt.charAt
    rw [hs, Array.back?]
    rfl
  unfold Txt.item
  rw [hc]
  cases hb : x.cps.back? with
  | none => rw [Array.back?, Array.getElem?_eq_none_iff] at hb; exact absurd (Nat.lt_of_le_of_lt hb (Nat.sub_lt (Nat.pos_of_ne_zero h) Nat.one_pos)) (Nat.lt_irrefl _)
  | some a =>
    show (decide _) = _
    by_cases e : a = ch
    · subst e; simp
    · have : (some a == some ch) = false := by simpa using e
      rw [this]
      simpa using e
theorem AllAt.take {P : Value → List Pv → Prop} {vs : List Value} {ds : List (List Pv)} (h : AllAt P vs ds) : ∀ i, AllAt P (vs.take i) (ds.take i) := by
  induction h with
  | nil => intro i; simpa using AllAt.nil
  | cons h1 _ ih =>
    intro i
    cases i with
    | zero => exact .nil
    | succ i => exact .cons h1 (ih i)
theorem AllAt.drop {P : Value → List Pv → Prop} {vs : List Value} {ds : List (List Pv)} (h : AllAt P vs ds) : ∀ i, AllAt P (vs.drop i) (ds.drop i) := by
  induction h with
  | nil => intro i; simpa using AllAt.nil
  | cons h1 h2 ih =>
    intro i
    cases i with
    | zero => exact .cons h1 h2
    | succ i => exact ih i
theorem tlen_take (cs : List (Str × Str)) (j : Nat) : tlen (cs.take j) ≤ tlen cs := by
  have := (take_le cs j).2
  rwa [← List.map_take] at this
theorem tlen_snoc (cs : List (Str × Str)) (c : Str × Str) : tlen (cs ++ [c]) = tlen cs + clen c := by simp [tlen]
theorem list_ne_L {g h : Heap} {L P : Addr} {m : Str → Option Value} {xs : Array Value} {n : Nat} (F : Fr g L h m) (e : h.get? P = some (listOf xs n)) : P ≠ L := fun q => by
  obtain ⟨oL, es, ep, hl, hdL, -⟩ := F.ns
  rw [q, hl] at e; cases e; cases hdL
theorem str_empty {x : Str} (h : x.length = 0) : x = Str.ofString "" := by
  obtain ⟨a⟩ := x
  have : a = #[] := Array.eq_empty_of_size_eq_zero h
  subst this; rfl
theorem str_nonempty {x : Str} (h : x.length ≠ 0) : x ≠ Str.ofString "" := fun e => h (by subst e; rfl)
theorem append_fmt {prog : Program} {w : World} {A : Around} {E : Value → Shared → Prop} {Q : Value → Shared → Prop} {s : Shared} {g : Heap} {L P : Addr} {m : Str → Option Value} {oP : Obj} {f fd dC : Addr} {q : FK} {ls : List Value} {nl : Nat} {vs : List Value} {k : Nat} {hh : Int} {tk0 : Tok} {n : Int} {tn : Tok} {ps qs : Array Value} {ex : List (Addr × Obj)} {x : Value}
    (F : Fr g L s.heap m) (N : News g L s.heap ((P, oP) :: (fD f fd dC q ls nl vs k hh tk0 n tn ps qs ++ ex)))
    (p1 : @LT.lt Nat _ 300 fd) (p2 : @LT.lt Nat _ fd f) (p3 : @LT.lt Nat _ f q.ln) (p4 : @LT.lt Nat _ q.ln dC) (p5 : @LT.lt Nat _ dC q.cu) (lP : @Ne Nat q.ln P) (hex : ∀ p ∈ ex, p.2.cls = .type "tuple") (hz : ls.length < 100000)
    (h : ∀ h', Fr g L h' m → News g L h' ((P, oP) :: (fD f fd dC q (ls ++ [x]) (nl + 1) vs k hh tk0 n tn ps qs ++ ex)) → Q .none { s with heap := h' }) : wpAny (model prog w) A (call (.builtin "list.append") [.ref q.ln, x]) Q E s := by
  have e9 := (N _ (.tail _ (.tail _ (.tail _ (.head _))))).1
  refine append_K F N (Upd.tail (p := (P, oP)) (fun e => lP (id e.symm)) (Upd.tail (p := (f, _)) (show @Ne Nat f q.ln by (clear p1 p2 p4 p5 lP hz; lia)) (Upd.tail (p := (fd, _)) (show @Ne Nat fd q.ln by (clear p1 p4 p5 lP hz; lia)) (Upd.head fun p hp => ?_)))) (fun h' F' N' => h h' F' (by simpa using N')) (by rw [List.size_toArray, sizeLine_eq]; (clear p1 p2 p3 p4 p5 lP; lia))
  rcases List.mem_cons.mp hp with rfl | hp
  · show @Ne Nat q.cu q.ln
    (clear p1 p2 p3 lP hz; lia)
  rcases List.mem_cons.mp hp with rfl | hp
  · show @Ne Nat dC q.ln
    (clear p1 p2 p3 p5 lP hz; lia)
  rcases List.mem_cons.mp hp with rfl | hp
  · show @Ne Nat 140 q.ln
    (clear p4 p5 lP hz; lia)
  rcases List.mem_cons.mp hp with rfl | hp
  · show @Ne Nat 147 q.ln
    (clear p4 p5 lP hz; lia)
  · intro e
    have e8 := (N p (.tail _ (List.mem_append_right _ hp))).1
    have e7 := hex p hp
    rw [e] at e8
    rw [e9] at e8
    rw [← (Option.some.inj e8)] at e7
    simp at e7

section
variable {w : World} {mg mb : Str → Option Value} {mean : ExcName → Option Value} {dp un : Nat} {gd : Option (List Code)} {fr : List Env} {base : Heap} {s : Shared} {Q E : Value → Shared → Prop}
theorem chunk_spec
  {f fd dC : Addr} {q : FK} {ls : List Value} {LS : List Str} {nl : Nat} {vs : List Value} {cs : List (Str × Str)} {k : Nat} {hh : Int} {tk0 : Tok} {n : Int} {tn : Tok} {ps qs : Array Value} {fw st : Str} {tf ts : Tok}
  (X : (Mine.heapK w.params).In base) (T : Top topProg GL mean mg mb base) (hS : base.StaysIn s.heap) (G : AllBare s.gens)
  (a : FAt s.heap f fd dC q ls nl vs k hh tk0 n tn ps qs) (o : FOff base f fd dC q)
  (hA : AllAt (TupAt s.heap) vs (cs.map ckd)) (hb : tlen (cs ++ [(fw, st)]) ≤ 1000000) (hn : 0 ≤ n ∧ n ≤ 1000000) (hz : vs.length < 10000) (hLS : StrsAre ls LS) (hlz : ls.length < 100000)
  (hok : ∀ c ∈ cs ++ [(fw, st)], PyData.strOk c.1 = true ∧ PyData.strOk c.2 = true) (hsp : ∀ (i : Nat) (c : Nat), q.sp.cps[i]? = some c → Txt.isspace ⟨#[c]⟩ = false)
  (hdp : dp < 500) (hu : un < 600)
  (ret : ∀ h' g' tk' ls' nl' vs' k' ps' qs' tn', Keep [q.ln, q.cu, dC, 140, 147] s.heap h' → FAt h' f fd dC q ls' nl' vs' k' hh tk0 (chunkR q.sp q.mx LS cs n (fw, st)).2.2 tn' ps' qs' → StrsAre ls' (chunkR q.sp q.mx LS cs n (fw, st)).1 → AllAt (TupAt h') vs' ((chunkR q.sp q.mx LS cs n (fw, st)).2.1.map ckd) → AllBare g' → Q .none { s with heap := h', gens := g', toks := tk' }) :
  wpAny (model PySem.Challenge.rw_ik0220_02.row.prog w) (amb dp un gd fr) (call (.ref 91) [.ref f, .str fw tf, .str st ts]) Q E s := by
  revert X; k_fill; intro X
  obtain ⟨p1, p2, p3, p4, p5⟩ := (⟨o.o1, o.o2, o.o3, o.o4, o.o5⟩ : _ ∧ _ ∧ _ ∧ _ ∧ _)
  refine wpAny_call ?_
  k_dflt (refine' enterF [(Str.ofString "string", .str st ts), (Str.ofString "fws", .str fw tf), (Str.ofString "self", .ref f)] (fD f fd dC q ls nl vs k hh tk0 n tn ps qs) ?kX ?kT hS ?kD ?kho ?khcd ?kroom ?kb ?kl ?kr ?_ ?c1 ?c2 ?c3 ?c4; (
  (case kX => assumption); (case kT => assumption); (case kho => k_is); (case khcd => k_is); (case kb => first | exact BindsTo.of_eq rfl | exact binds_K (by k_in) rfl (by k_is) rfl rfl rfl);
  (case kl => exact locs rfl); (case kr => exact rfl); (case c1 => exact rfl); (case c2 => exact rfl); (case c3 => exact rfl); (case c4 => first | decide | exact fun _ => rfl); (case kroom => first | exact rm0 hdp rfl | (simp only [recursionLimit]; omega))); (case kD => exact a.all o))
  intro g L h1 fr' tk F N X1 T1 KP LTs
  refine (let aA := _; let eN := _; let qk := _; let ek := _; (?_ : wpAny _ aA (execs _ eN) qk ek _))
  unfold fD at N
  (repeat' (first | (fail_if_success with_reducible refine Nf.go (by constructor) ?_); (fail_if_success fail_if_success with_reducible refine Fd.go (by constructor) ?_; k_fold); refine (let qk := _; let ek := _; (?_ : wpAny _ _ _ qk ek _)) | (fail_if_success fail_if_success k_unfold); (first | with_reducible refine (?_ : wpAny _ _ _ _ _ _) | k_unfold); (try dsimp only); try clear qk ek | (fail_if_success with_reducible refine Stop.go (by constructor) ?_); first | walk1 | dsimp only; walk1))
  try dsimp only
  have hAg : AllAt (TupAt g) vs (cs.map ckd) := hA.mono fun v d' z => z.kept KP fun b hb' ob ho => by
    obtain ⟨r, hr, rfl⟩ := List.mem_map.mp hb'
    have e9 := (a.all o r hr).1
    rw [e9] at ho; cases ho
    simp only [fD, List.mem_cons, List.not_mem_nil, or_false] at hr
    rcases hr with rfl | rfl | rfl | rfl | rfl | rfl | rfl <;> simp
  refine push_spec X1 T1 F.keep (N _ (.tail _ (.tail _ (.tail _ (.head _))))).1 (N _ (.tail _ (.tail _ (.tail _ (.tail _ (.head _)))))).1 (N _ (.tail _ (.tail _ (.tail _ (.head _))))).2.2 (N _ (.tail _ (.tail _ (.tail _ (.tail _ (.head _)))))).2.2 p5 (by (clear hb hn hlz hdp p1 p2 p3 p4 p5; lia)) (by (clear hb hn hz hlz p1 p2 p3 p4 p5; omega)) (by (clear hb hn hz hlz hdp p1 p2 p3 p4 p5; omega)) fun h2 tk2 TE k2 e2 t2 => ?_
  have a1 : FAt h1 f fd dC q ls nl vs k hh tk0 n tn ps qs := FAt.of N (fun p hp => hp) a.atp a.atq
  have a2 := a1.cu' o k2 e2
  have F2 := fr_kept F N k2 (fun b hb => by rw [List.mem_singleton.mp hb]; exact ⟨_, .tail _ (.tail _ (.tail _ (.head _)))⟩)
  have A2 : AllAt (TupAt h2) (vs ++ [.ref TE]) ((cs ++ [(fw, st)]).map ckd) := by
    rw [List.map_append]
    exact (hAg.mono fun _ _ z => z.keeps F2.keep).append (.cons ⟨TE, _, 0, rfl, t2, .cons (.s _ _) (.cons (.s _ _) .nil)⟩ .nil)
  obtain ⟨ex, hex, Nx⟩ := all_tail F2 A2
  have N2 : News g L h2 ((f, instObj 94 fd) :: (fd, dictOf (fmtE q) 6) :: (q.ln, listOf ls.toArray nl) :: (q.cu, accObj dC (vs ++ [.ref TE]) (k + 1)) :: (dC, dictOf (iniE hh tk0 n tn) 1) :: (140, tabObj ps) :: (147, tabObj qs) :: ex) := Mine.News.app (a2.news N (fun p hp => hp)) Nx
  have lz : (vs ++ [Value.ref TE]).length < 10001 := by simp; (clear hb hn hlz hdp p1 p2 p3 p4 p5; lia)
  have hl2 : (vs ++ [Value.ref TE]).length = (cs ++ [(fw, st)]).length := by have := A2.length; simpa using this
  have hne2 : 0 < (cs ++ [(fw, st)]).length := by simp
  generalize vs ++ [Value.ref TE] = vs2 at *
  replace ret : ∀ R : List Str × List (Str × Str) × Int, chunkR q.sp q.mx LS cs n (fw, st) = R → ∀ h' g' tk' ls' nl' vs' k' ps' qs' tn', Keep [q.ln, q.cu, dC, 140, 147] s.heap h' → FAt h' f fd dC q ls' nl' vs' k' hh tk0 R.2.2 tn' ps' qs' → StrsAre ls' R.1 → AllAt (TupAt h') vs' (R.2.1.map ckd) → AllBare g' → Q .none { s with heap := h', gens := g', toks := tk' } := by
    rintro R rfl
    exact ret
  generalize hcs2 : cs ++ [(fw, st)] = cs2 at *
  generalize k + 1 = k2' at *
  clear F N a1 e2 t2 A2 Nx
  (repeat' (first | (fail_if_success with_reducible refine Nf.go (by constructor) ?_); (fail_if_success fail_if_success with_reducible refine Fd.go (by constructor) ?_; k_fold); refine (let qk := _; let ek := _; (?_ : wpAny _ _ _ qk ek _)) | (fail_if_success fail_if_success k_unfold); (first | with_reducible refine (?_ : wpAny _ _ _ _ _ _) | k_unfold); (try dsimp only); try clear qk ek | (fail_if_success with_reducible refine StopT.go (by constructor) ?_); (fail_if_success with_reducible refine Stop.go (by constructor) ?_); first | walk1 | dsimp only; walk1))
  k_dflt (refine' len_K F2 X1 ?kI ?k1 ?k2 ?_; (case kI => k_inst); (case k1 => k_is); (case k2 => k_is))
  show wpAny _ (amb (dp + 1) (un + 4) gd fr') _ _ _ _
  have A2 := hex h2 F2.keep fun p hp => (N2 p (.tail _ (.tail _ (.tail _ (.tail _ (.tail _ (.tail _ (.tail _ hp)))))))).1
  have z3 := (N2 _ (.tail _ (.tail _ (.tail _ (.head _))))).2.2
  have z4 := (N2 _ (.tail _ (.tail _ (.tail _ (.tail _ (.head _)))))).2.2
  have z5 := (N2 _ (.tail _ (.tail _ (.tail _ (.tail _ (.tail _ (.head _))))))).2.2
  have z6 := (N2 _ (.tail _ (.tail _ (.tail _ (.tail _ (.tail _ (.tail _ (.head _)))))))).2.2
  have N2' : News g L h2 (fD f fd dC q ls nl vs2 k2' hh tk0 n tn ps qs) := a2.news N2 (fun p hp => List.mem_append_left ex hp)
  refine len_spec (cs := cs2) X1 T1 F2.keep a2.acu a2.adc z3 z4 p5 (by (clear hn hz hlz hdp p5 lz hb hne2 hl2; lia)) a2.ap z5 a2.atp G A2 hb hn (by (clear hn hz hlz p1 p2 p3 p4 p5 lz hb hne2 hl2; omega)) (by (clear hn hz hlz hdp p1 p2 p3 p4 p5 lz hb hne2 hl2; omega)) fun t4 h4 g4 tk4 ps4 k4 e4 ht4 G4 => ?_
  have F4 := Fr.re1 F2 N2' k4 (.tail _ (.tail _ (.tail _ (.tail _ (.tail _ (.head _))))))
  have a4 := a2.p' o k4 e4 ht4
  have N4' := a4.news N2' (fun p hp => hp)
  have A4 : AllAt (TupAt h4) vs2 (cs2.map ckd) := A2.mono fun _ _ z => tup_kept z k4 N2' (fun b hb => by rw [List.mem_singleton.mp hb]; exact ⟨_, .tail _ (.tail _ (.tail _ (.tail _ (.tail _ (.head _))))), by simp⟩)
  have nn := tlen_nn cs2
  clear F2 N2 N2' hex ex A2 k2
  obtain ⟨ex, hex, Nx⟩ := all_tail F4 A4
  have N4 : News g L h4 ((f, instObj 94 fd) :: (fd, dictOf (fmtE q) 6) :: (q.ln, listOf ls.toArray nl) :: (q.cu, accObj dC vs2 k2') :: (dC, dictOf (iniE hh tk0 n tn) 1) :: (140, tabObj ps4) :: (147, tabObj qs) :: ex) := Mine.News.app N4' Nx
  clear N4' Nx
  refine ⟨⟨by (clear hz hlz hdp p1 p2 p3 p4 p5 lz hne2 hl2; lia), by (clear hz hlz hdp p1 p2 p3 p4 p5 lz hne2 hl2; omega)⟩, ?_⟩
  (repeat' (first | (fail_if_success with_reducible refine Nf.go (by constructor) ?_); (fail_if_success fail_if_success with_reducible refine Fd.go (by constructor) ?_; k_fold); refine (let qk := _; let ek := _; (?_ : wpAny _ _ _ qk ek _)) | (fail_if_success fail_if_success k_unfold); (first | with_reducible refine (?_ : wpAny _ _ _ _ _ _) | k_unfold); (try dsimp only); try clear qk ek | (fail_if_success with_reducible refine StopT.go (by constructor) ?_); (fail_if_success with_reducible refine Stop.go (by constructor) ?_); first | walk1 | dsimp only; walk1))
  · have FK4 := toKF [(Str.ofString "self", .ref f), (Str.ofString "fws", .str fw tf)] F4 ⟨rfl, rfl, trivial⟩
    refine for_W ?_
    ((fail_if_success (fail_if_success k_fold)); refine (let qk := _; let ek := _; (?_ : wpAny _ _ _ qk ek _)))
    (repeat' (first | (fail_if_success with_reducible refine Nf.go (by constructor) ?_); (fail_if_success fail_if_success with_reducible refine Fd.go (by constructor) ?_; k_fold); refine (let qk := _; let ek := _; (?_ : wpAny _ _ _ qk ek _)) | (fail_if_success fail_if_success k_unfold); (first | with_reducible refine (?_ : wpAny _ _ _ _ _ _) | k_unfold); (try dsimp only); try clear qk ek | (fail_if_success with_reducible refine Stop.go (by constructor) ?_); first | walk1 | dsimp only; walk1))
    refine iter_str fun oI St hfr W hst => ?_
    obtain ⟨FI, NI, lI⟩ := ks_newsPush (s := { s with heap := h4, toks := tk }) (o := oI) FK4 N4 rfl (Heap.get?_push_at rfl hfr) (fun b o e => Heap.get?_push_of_some _ e)
    have W' := W (amb (dp + 1) (un + 3) gd fr') rfl
    obtain ⟨nIL, gI⟩ := (NI _ (.head _)).2
    replace NI := fun p hp => NI p (.tail _ hp)
    clear W
    dsimp only at W' hst FI NI nIL gI
    refine ⟨_, _, _, _, _, St, fun i s' => ∃ h tk u, s' = { s with heap := h, gens := g4, toks := tk } ∧ Fr g L h (KF [(Str.ofString "self", .ref f), (Str.ofString "fws", .str fw tf)] u) ∧ News g L h (fD f fd dC q ls nl vs2 k2' hh tk0 n tn ps4 qs ++ ex) ∧ ∀ j : Nat, j < i → ∀ c : Nat, q.sp.cps.toList[j]? = some c → innR cs2 c (cs2.length - 1) = none, rfl, W', hst, ⟨_, _, _, rfl, FI, NI, fun j hj => absurd hj (Nat.not_lt_zero _)⟩, ?_, ?_⟩
    · rintro i s5 v h5 tk5 hi st ⟨h6, tk6, u6, rfl, F6, N6, no6⟩ hv st5 kk
      clear F4 FK4 N4 FI NI hst
      dsimp only at kk
      have F7 := Mine.Fr.kept (h' := h5) (D := [h4.objs.size]) F6 (fun b ob hb e => kk b ob hb e) (fun b hb => by rw [List.mem_singleton.mp hb]; exact gI) (fun hb => nIL (List.mem_singleton.mp hb).symm)
      have N7 := News.kept (h' := h5) (D := [h4.objs.size]) N6 (fun b ob hb e => kk b ob hb e) (fun p hp hb => absurd (lI p hp) (by rw [List.mem_singleton.mp hb]; exact Nat.lt_irrefl _))
      obtain ⟨ei, hei, Ne⟩ := iter_tail W' st5 gI nIL
      have N8 : News g L h5 ((f, instObj 94 fd) :: (fd, dictOf (fmtE q) 6) :: (q.ln, listOf ls.toArray nl) :: (q.cu, accObj dC vs2 k2') :: (dC, dictOf (iniE hh tk0 n tn) 1) :: (140, tabObj ps4) :: (147, tabObj qs) :: (ex ++ ei)) := Mine.News.app N7 Ne
      obtain ⟨ch, tc, hci, rfl⟩ := hv
      clear N7 Ne F6 N6 st st5 kk
      with_reducible show wpAny _ _ (storeName _ _ _) _ _ _
      ((fail_if_success (fail_if_success k_fold)); refine (let qk := _; let ek := _; (?_ : wpAny _ _ _ qk ek _)))
      (repeat' (first | (fail_if_success with_reducible refine Nf.go (by constructor) ?_); (fail_if_success fail_if_success with_reducible refine Fd.go (by constructor) ?_; k_fold); refine (let qk := _; let ek := _; (?_ : wpAny _ _ _ qk ek _)) | (fail_if_success fail_if_success k_unfold); (first | with_reducible refine (?_ : wpAny _ _ _ _ _ _) | k_unfold); (try dsimp only); try clear qk ek | (fail_if_success with_reducible refine Stop.go (by constructor) ?_); first | walk1 | dsimp only; walk1))
      rename Heap => hA; rename Fr _ _ _ _ => FA; rename News _ _ _ _ => NA
      have FB := toKF [(Str.ofString "self", .ref f), (Str.ofString "ch", .str ⟨#[ch]⟩ tc), (Str.ofString "fws", .str fw tf)] FA ⟨rfl, rfl, rfl, trivial⟩
      clear FA
      refine for_W ?_
      ((fail_if_success (fail_if_success k_fold)); refine (let qk := _; let ek := _; (?_ : wpAny _ _ _ qk ek _)))
      (repeat' (first | (fail_if_success with_reducible refine Nf.go (by constructor) ?_); (fail_if_success fail_if_success with_reducible refine Fd.go (by constructor) ?_; k_fold); refine (let qk := _; let ek := _; (?_ : wpAny _ _ _ qk ek _)) | (fail_if_success fail_if_success k_unfold); (first | with_reducible refine (?_ : wpAny _ _ _ _ _ _) | k_unfold); (try dsimp only); try clear qk ek | (fail_if_success with_reducible refine Stop.go (by constructor) ?_); first | walk1 | dsimp only; walk1))
      refine part_count_spec X1 T1 FB.keep (NA _ (.tail _ (.tail _ (.tail _ (.head _))))).1 (NA _ (.tail _ (.tail _ (.tail _ (.tail _ (.head _)))))).1 (NA _ (.tail _ (.tail _ (.tail _ (.head _))))).2.2 (NA _ (.tail _ (.tail _ (.tail _ (.tail _ (.head _)))))).2.2 (by (clear hn hz hlz p1 p2 p3 p4 p5 lz hb hne2 hl2 nn nIL hi; omega)) (by (clear hn hz hlz hdp p1 p2 p3 p4 p5 lz hb hne2 hl2 nn nIL hi; omega)) fun tp hB tkB kB => ?_
      have FC := Mine.Fr.kept (h' := hB) (D := []) FB kB (fun b hb => no_mem hb) (fun hb => no_mem hb)
      have NC := News.kept (h' := hB) (D := []) NA kB (fun p hp hb => no_mem hb)
      clear FB NA
      (repeat' (first | (fail_if_success with_reducible refine Nf.go (by constructor) ?_); (fail_if_success fail_if_success with_reducible refine Fd.go (by constructor) ?_; k_fold); refine (let qk := _; let ek := _; (?_ : wpAny _ _ _ qk ek _)) | (fail_if_success fail_if_success k_unfold); (first | with_reducible refine (?_ : wpAny _ _ _ _ _ _) | k_unfold); (try dsimp only); try clear qk ek | (fail_if_success with_reducible refine Stop.go (by constructor) ?_); first | walk1 | dsimp only; walk1))
      rename_i hD tkD t1 u1 v1 hR FD ND kD
      refine wpAny_pyIter_range hR (small_down _ (by (clear hn hz hlz hdp p1 p2 p3 p4 p5 hb nn nIL hi; lia))) ?_
      rw [range_down]
      obtain ⟨FE, NE, lE⟩ := ks_newsPush (s := { s with heap := hD, toks := tkD }) (o := { cls := .type "range_iterator", data := .fields #[rawInt ((vs2.length : Int) - 1), rawInt ((vs2.length - 1 : Nat) : Int), rawInt (-1)] }) FD ND rfl (Heap.get?_push_at rfl rfl) (fun b o e => Heap.get?_push_of_some _ e)
      refine ⟨_, _, _, _, _, _, fun i2 s' => ∃ h tk u, s' = { s with heap := h, gens := g4, toks := tk } ∧ Fr g L h (KF [(Str.ofString "self", .ref f), (Str.ofString "ch", .str ⟨#[ch]⟩ tc), (Str.ofString "fws", .str fw tf)] u) ∧ News g L h (fD f fd dC q ls nl vs2 k2' hh tk0 n tn ps4 qs ++ (ex ++ ei)) ∧ innR cs2 ch (cs2.length - 1) = innR cs2 ch (cs2.length - 1 - i2), rfl, Walks.range rfl hD.objs.size ((vs2.length : Int) - 1) (-1) (vs2.length - 1), ?_, ⟨_, _, _, rfl, FE, fun p hp => NE p (.tail _ hp), rfl⟩, ?_, ?_⟩
      · have e9 := (NE _ (.head _)).1
        show Heap.get? _ _ = _
        simpa using e9
      · rintro i2 s6 v6 h10 tk10 hi2 st10 ⟨h11, tk11, u11, rfl, F11, N11, in11⟩ ⟨ti, rfl⟩ st11 kk11
        have F12 := Mine.Fr.kept (h' := h10) (D := [hD.objs.size]) F11 (fun b ob hb e => kk11 b ob hb e) (fun b hb => by rw [List.mem_singleton.mp hb]; exact (NE _ (.head _)).2.2) (fun hb => (NE _ (.head _)).2.1 (List.mem_singleton.mp hb).symm)
        have N12 := News.kept (h' := h10) (D := [hD.objs.size]) N11 (fun b ob hb e => kk11 b ob hb e) (fun p hp hb => absurd (lE p hp) (by rw [List.mem_singleton.mp hb]; exact Nat.lt_irrefl _))
        have N13 := News.cons N12 (show h10.get? hD.objs.size = some _ from st11) (NE _ (.head _)).2.2 (NE _ (.head _)).2.1
        clear F11 N11 N12 st10 kk11
        simp only [fD, List.cons_append, List.nil_append] at N13
        with_reducible show wpAny _ _ (storeName _ _ _) _ _ _
        ((fail_if_success (fail_if_success k_fold)); refine (let qk := _; let ek := _; (?_ : wpAny _ _ _ qk ek _)))
        (repeat' (first | (fail_if_success with_reducible refine Nf.go (by constructor) ?_); (fail_if_success fail_if_success with_reducible refine Fd.go (by constructor) ?_; k_fold); refine (let qk := _; let ek := _; (?_ : wpAny _ _ _ qk ek _)) | (fail_if_success fail_if_success k_unfold); (first | with_reducible refine (?_ : wpAny _ _ _ _ _ _) | k_unfold); (try dsimp only); try clear qk ek | (fail_if_success with_reducible refine Stop.go (by constructor) ?_); first | walk1 | dsimp only; walk1))
        · have w9 : Txt.isspace ⟨#[ch]⟩ = true := by assumption
          rw [hsp i ch hci] at w9; cases w9
        · rename Heap => hE; rename Fr _ _ _ _ => F14; rename News _ _ _ _ => N14
          obtain ⟨t, ht⟩ : ∃ t : Nat, cs2.length - 1 - i2 = t + 1 := Nat.exists_eq_add_one.mpr (Nat.sub_pos_of_lt (hl2 ▸ hi2))
          rw [ht] at in11
          have eI : (vs2.length : Int) - 1 + (i2 : Int) * -1 = ((t + 1 : Nat) : Int) := by (clear hn hz hlz hdp p1 p2 p3 p4 p5 lz hb hne2 nn nIL hi hi2; omega)
          rw [eI] at F14 ⊢
          have A14 := hex hE F14.keep fun p hp => (N14 _ (.tail _ (.tail _ (.tail _ (.tail _ (.tail _ (.tail _ (.tail _ (.tail _ (List.mem_append_left ei hp)))))))))).1
          have ht2 : t < cs2.length := by (clear hn hz hlz hdp p1 p2 p3 p4 p5 lz hb hne2 nn nIL hi hi2 ht; omega)
          obtain ⟨v9, ev9, tv9⟩ := A14.get (i := t) (by simpa using ht2)
          rw [List.getElem_map] at tv9
          have hc0 : cs2[t]? = some cs2[t] := List.getElem?_eq_getElem ht2
          generalize cs2[t] = c0 at hc0 tv9
          obtain ⟨d1, d2⟩ := c0
          have hd2 : d2.length ≤ 1000000 := by
            have z := clen_le (List.mem_of_getElem? hc0)
            have z' : clen (d1, d2) = ((d1.length + d2.length : Nat) : Int) := rfl
            (clear hn hz hlz hdp p1 p2 p3 p4 p5 lz hne2 hl2 nIL hi hi2 ht eI ht2; lia)
          obtain ⟨T9, x1, x2, rfl, hT9⟩ := tv9.pair
          k_dflt (refine' sub_at (vs := vs2) (o := accObj dC vs2 k2') (n := k2') (X1.keeps F14.keep) ?kI ?k1 ?k2 ?k3 rfl (by (clear hn hz hlz hdp p1 p2 p3 p4 p5 lz hb hne2 hl2 nn nIL hi hi2 ht eI ht2 hd2; lia)) (by (clear hn hz hlz hdp p1 p2 p3 p4 p5 hb nn nIL hi hi2 ht hd2; lia)) (v := .ref T9) ?k4 ?_; (case kI => k_inst); (case k1 => k_is); (case k2 => k_is); (case k3 => k_is); (case k4 => (rw [show (((t + 1 : Nat) : Int) - 1).toNat = t by (clear hn hz hlz hdp p1 p2 p3 p4 p5 lz hb hne2 hl2 nn nIL hi hi2 ht eI ht2 hd2; lia), List.getElem?_toArray]; exact ev9)))
          (repeat' (first | (fail_if_success with_reducible refine Nf.go (by constructor) ?_); (fail_if_success fail_if_success with_reducible refine Fd.go (by constructor) ?_; k_fold); refine (let qk := _; let ek := _; (?_ : wpAny _ _ _ qk ek _)) | (fail_if_success fail_if_success k_unfold); (first | with_reducible refine (?_ : wpAny _ _ _ _ _ _) | k_unfold); (try dsimp only); try clear qk ek | (fail_if_success with_reducible refine Stop.go (by constructor) ?_); first | walk1 | dsimp only; walk1))
          refine sub_tup hT9 (by decide) (by decide) (j := 1) (x := .str d2 x2) rfl rfl ?_
          (repeat' (first | (fail_if_success with_reducible refine Nf.go (by constructor) ?_); (fail_if_success fail_if_success with_reducible refine Fd.go (by constructor) ?_; k_fold); refine (let qk := _; let ek := _; (?_ : wpAny _ _ _ qk ek _)) | (fail_if_success fail_if_success k_unfold); (first | with_reducible refine (?_ : wpAny _ _ _ _ _ _) | k_unfold); (try dsimp only); try clear qk ek | (fail_if_success with_reducible refine Stop.go (by constructor) ?_); first | walk1 | dsimp only; walk1))
          · rename Heap => hG; rename Fr _ _ _ _ => F15; rename News _ _ _ _ => N15
            rename _ = _ => e2
            have e0' : d2.length ≠ 0 := by (clear hn hz hlz hdp p1 p2 p3 p4 p5 lz hb hne2 hl2 nn nIL hi hi2 ht eI ht2 hd2; lia)
            rw [item_last e0'] at e2
            have hit : innR cs2 ch (cs2.length - 1) = some (t + 1) := by rw [in11]; exact innR_hit hc0 e2
            have hcut : cutAt cs2 q.sp.cps.toList = some (t + 1) := cutAt_some (i := i) (by rw [Array.getElem?_toList]; exact hci) no6 hit
            have hR9 := chunkR_cut (LS := LS) hcs2 (show ¬ n + tlen cs2 ≤ q.mx from (by (clear hn hz hlz hdp p1 p2 p3 p4 p5 lz hb hne2 hl2 nn nIL hi hi2 ht eI ht2 hd2 e0'; lia))) hcut

            have A15 := hex hG F15.keep fun p hp => (N15 _ (.tail _ (.tail _ (.tail _ (.tail _ (.tail _ (.tail _ (.tail _ (.tail _ (List.mem_append_left ei hp)))))))))).1
            replace N15 : News g L hG (fD f fd dC q ls nl vs2 k2' hh tk0 n tn ps4 qs) := fun p hp => N15 p (.tail _ (List.mem_append_left (ex ++ ei) hp))
            clear W' hT9 tv9 kD hR hei lE lI in11 no6
            dsimp only [WkP]
            (repeat' (first | (fail_if_success with_reducible refine Nf.go (by constructor) ?_); (fail_if_success fail_if_success with_reducible refine Fd.go (by constructor) ?_; k_fold); refine (let qk := _; let ek := _; (?_ : wpAny _ _ _ qk ek _)) | (fail_if_success fail_if_success k_unfold); (first | with_reducible refine (?_ : wpAny _ _ _ _ _ _) | k_unfold); (try dsimp only); try clear qk ek | (fail_if_success with_reducible refine Stop.go (by constructor) ?_); first | walk1 | dsimp only; walk1))
            dsimp only [WkP]
            (repeat' (first | (fail_if_success with_reducible refine Nf.go (by constructor) ?_); (fail_if_success fail_if_success with_reducible refine Fd.go (by constructor) ?_; k_fold); refine (let qk := _; let ek := _; (?_ : wpAny _ _ _ qk ek _)) | (fail_if_success fail_if_success k_unfold); (first | with_reducible refine (?_ : wpAny _ _ _ _ _ _) | k_unfold); (try dsimp only); try clear qk ek | (fail_if_success with_reducible refine Stop.go (by constructor) ?_); first | walk1 | dsimp only; walk1))
            have a15 : FAt hG f fd dC q ls nl vs2 k2' hh tk0 n tn ps4 qs := FAt.of N15 (fun p hp => hp) a4.atp a4.atq
            have lt2 : t + 1 ≤ vs2.length := by (clear hn hz hlz hdp p1 p2 p3 p4 p5 lz hb hne2 nn nIL hi hi2 ht hd2 e0'; lia)
            refine popfrom_spec (i := t + 1) X1 T1 F15.keep a15.acu a15.adc z3 z4 p5 (by (clear hn hz hlz hdp p1 p2 p3 p4 p5 hb nn nIL hi hi2 ht ht2 hd2 e0' lt2; lia)) lt2 (by (clear hn hz hlz p1 p2 p3 p4 p5 lz hb hne2 hl2 nn nIL hi hi2 ht eI ht2 hd2 e0' lt2; omega)) (by (clear hn hz hlz hdp p1 p2 p3 p4 p5 lz hb hne2 hl2 nn nIL hi hi2 ht eI ht2 hd2 e0' lt2; omega)) fun h16 tk16 P k16 fP kp16 eP e16 => ?_
            have a16 := a15.cu' o kp16 e16
            have F16 := fr_kept F15 N15 kp16 (fun b hb => by rw [List.mem_singleton.mp hb]; exact ⟨_, .tail _ (.tail _ (.tail _ (.head _)))⟩)
            have gP : g.get? P = none := by
              cases eg : g.get? P with
              | none => rfl
              | some oP => have := F15.keep _ _ eg; rw [this] at fP; cases fP
            have nPL := list_ne_L F16 eP
            have A16 : AllAt (TupAt h16) vs2 (cs2.map ckd) := A15.mono fun _ _ z => tup_kept z kp16 N15 (fun b hb => by rw [List.mem_singleton.mp hb]; exact ⟨_, .tail _ (.tail _ (.tail _ (.head _))), by simp⟩)
            have cP : @Ne Nat q.cu P := fun e => by
              have e9 := a15.acu
              rw [show q.cu = P from e, fP] at e9; cases e9
            have lP : @Ne Nat q.ln P := fun e => by
              have e9 := a15.aln
              rw [show q.ln = P from e, fP] at e9; cases e9
            have dP : @Ne Nat dC P := fun e => by
              have e9 := a15.adc
              rw [show dC = P from e, fP] at e9; cases e9
            have qP : @Ne Nat 147 P := fun e => by
              have e9 := a15.aq
              rw [show (147 : Addr) = P from e, fP] at e9; cases e9
            obtain ⟨ex2, hex2, Nx2⟩ := all_tail F16 A16
            have N16 : News g L h16 ((P, listOf (vs2.drop (t + 1)).toArray 0) :: (f, instObj 94 fd) :: (fd, dictOf (fmtE q) 6) :: (q.ln, listOf ls.toArray nl) :: (q.cu, accObj dC (vs2.take (t + 1)) k16) :: (dC, dictOf (iniE hh tk0 n tn) 1) :: (140, tabObj ps4) :: (147, tabObj qs) :: ex2) := News.cons (Mine.News.app (a16.news N15 (fun p hp => hp)) Nx2) eP gP nPL
            clear F15 N15 Nx2 A15 A16
            (repeat' (first | (fail_if_success with_reducible refine Nf.go (by constructor) ?_); (fail_if_success fail_if_success with_reducible refine Fd.go (by constructor) ?_; k_fold); refine (let qk := _; let ek := _; (?_ : wpAny _ _ _ qk ek _)) | (fail_if_success fail_if_success k_unfold); (first | with_reducible refine (?_ : wpAny _ _ _ _ _ _) | k_unfold); (try dsimp only); try clear qk ek | (fail_if_success with_reducible refine StopT.go (by constructor) ?_); (fail_if_success with_reducible refine Stop.go (by constructor) ?_); first | walk1 | dsimp only; walk1))
            rename Heap => h17; rename Fr _ _ _ _ => F17; rename News _ _ _ _ => N17
            have A17 := hex2 h17 F17.keep fun p hp => (N17 _ (.tail _ (.tail _ (.tail _ (.tail _ (.tail _ (.tail _ (.tail _ (.tail _ hp))))))))).1
            have eP17 := (N17 _ (.head _)).1
            have N17' : News g L h17 (fD f fd dC q ls nl (vs2.take (t + 1)) k16 hh tk0 n tn ps4 qs) := fun p hp => N17 p (.tail _ (List.mem_append_left ex2 hp))
            have a17 : FAt h17 f fd dC q ls nl (vs2.take (t + 1)) k16 hh tk0 n tn ps4 qs := FAt.of N17' (fun p hp => hp) a4.atp a4.atq
            have lt3 : (vs2.take (t + 1)).length ≤ vs2.length := by rw [List.length_take]; (clear hn hz hlz hdp p1 p2 p3 p4 p5 lz hb hne2 nn nIL hi hi2 ht hd2 e0' lt2 nPL cP lP dP qP; lia)
            have lt4 : (vs2.drop (t + 1)).length ≤ vs2.length := by rw [List.length_drop]; (clear hn hz hlz hdp p1 p2 p3 p4 p5 lz hb hne2 nn nIL hi hi2 ht hd2 e0' lt2 nPL cP lP dP qP lt3; lia)
            have tl3 := tlen_take cs2 (t + 1)
            k_dflt (refine' kso_call ?hu (X1.keeps F17.keep) ?kI ?k1 ?k2 ?_; (case hu => show un + 3 + 1 + 1 < cLine; simp only [cLine]; (clear hn hz hlz hdp p1 p2 p3 p4 p5 lz hb hne2 hl2 nn nIL hi hi2 ht eI ht2 hd2 e0' lt2 nPL cP lP dP qP lt3 lt4 tl3; lia)); (case kI => k_inst); (case k1 => k_is); (case k2 => k_is))
            show wpAny _ (amb (dp + 1) (un + 5) gd fr') _ _ _ _
            have A17t : AllAt (TupAt h17) (vs2.take (t + 1)) ((cs2.take (t + 1)).map ckd) := by rw [List.map_take]; exact AllAt.take A17 (t + 1)
            refine str_spec (cs := cs2.take (t + 1)) X1 T1 F17.keep a17.acu a17.adc z3 z4 p5 (by (clear hn hz hlz hdp p5 lz hb hne2 hl2 nn nIL hi hi2 ht eI ht2 hd2 e0' lt2 nPL cP lP dP qP lt3 lt4 tl3; lia)) (by (clear hn hz hlz hdp p1 p2 p3 p4 p5 hb nn nIL hi hi2 ht ht2 hd2 e0' lt2 nPL cP lP dP qP lt4 tl3; lia)) a17.aq z6 a17.atq G4 A17t (by (clear hn hz hlz hdp p1 p2 p3 p4 p5 lz hne2 hl2 nIL hi hi2 ht eI ht2 hd2 e0' lt2 nPL cP lP dP qP lt3 lt4; lia)) hn (by (clear hn hz hlz p1 p2 p3 p4 p5 lz hb hne2 hl2 nn nIL hi hi2 ht eI ht2 hd2 e0' lt2 nPL cP lP dP qP lt3 lt4 tl3; omega)) (by (clear hn hz hlz hdp p1 p2 p3 p4 p5 lz hb hne2 hl2 nn nIL hi hi2 ht eI ht2 hd2 e0' lt2 nPL cP lP dP qP lt3 lt4 tl3; omega)) fun t6 h18 g18 tk18 qs18 kp18 e18 t18 G18 => ?_
            have F18 := Fr.re1 F17 N17' kp18 (.tail _ (.tail _ (.tail _ (.tail _ (.tail _ (.tail _ (.head _)))))))
            have a18 := a17.q' o kp18 e18 t18
            have eP18 := kp18 _ _ (off1 qP.symm) eP17
            have A18 : AllAt (TupAt h18) vs2 (cs2.map ckd) := A17.mono fun _ _ z => tup_kept z kp18 N17' (fun b hb => by rw [List.mem_singleton.mp hb]; exact ⟨_, .tail _ (.tail _ (.tail _ (.tail _ (.tail _ (.tail _ (.head _)))))), by simp⟩)
            obtain ⟨ex3, hex3, Nx3, Cx3⟩ := all_tail2 F18 A18
            have N18 : News g L h18 ((P, listOf (vs2.drop (t + 1)).toArray 0) :: (f, instObj 94 fd) :: (fd, dictOf (fmtE q) 6) :: (q.ln, listOf ls.toArray nl) :: (q.cu, accObj dC (vs2.take (t + 1)) k16) :: (dC, dictOf (iniE hh tk0 n tn) 1) :: (140, tabObj ps4) :: (147, tabObj qs18) :: ex3) := News.cons (Mine.News.app (a18.news N17' (fun p hp => hp)) Nx3) eP18 gP nPL
            clear F17 N17 N17' Nx3 A17 A17t A18 hex2
            dsimp only [StrBack]
            (repeat' (first | (fail_if_success with_reducible refine Nf.go (by constructor) ?_); (fail_if_success fail_if_success with_reducible refine Fd.go (by constructor) ?_; k_fold); refine (let qk := _; let ek := _; (?_ : wpAny _ _ _ qk ek _)) | (fail_if_success fail_if_success k_unfold); (first | with_reducible refine (?_ : wpAny _ _ _ _ _ _) | k_unfold); (try dsimp only); try clear qk ek | (fail_if_success with_reducible refine Stop.go (by constructor) ?_); first | walk1 | dsimp only; walk1))
            refine append_fmt F18 N18 p1 p2 p3 p4 p5 lP Cx3 hlz fun h19 F19 N19 => ?_
            simp only [fD, List.cons_append, List.nil_append] at N19
            clear F18 N18
            (repeat' (first | (fail_if_success with_reducible refine Nf.go (by constructor) ?_); (fail_if_success fail_if_success with_reducible refine Fd.go (by constructor) ?_; k_fold); refine (let qk := _; let ek := _; (?_ : wpAny _ _ _ qk ek _)) | (fail_if_success fail_if_success k_unfold); (first | with_reducible refine (?_ : wpAny _ _ _ _ _ _) | k_unfold); (try dsimp only); try clear qk ek | (fail_if_success with_reducible refine Stop.go (by constructor) ?_); first | walk1 | dsimp only; walk1))
            try dsimp only
            have A19 := hex3 h19 F19.keep fun p hp => (N19 _ (.tail _ (.tail _ (.tail _ (.tail _ (.tail _ (.tail _ (.tail _ (.tail _ hp))))))))).1
            have eP19 := (N19 _ (.head _)).1
            have N19' : News g L h19 (fD f fd dC q (ls ++ [.str (ctxt (cs2.take (t + 1))) t6]) (nl + 1) (vs2.take (t + 1)) k16 hh tk0 n tn ps4 qs18) := fun p hp => N19 p (.tail _ (List.mem_append_left ex3 hp))
            have a19 : FAt h19 f fd dC q (ls ++ [.str (ctxt (cs2.take (t + 1))) t6]) (nl + 1) (vs2.take (t + 1)) k16 hh tk0 n tn ps4 qs18 := FAt.of N19' (fun p hp => hp) a4.atp t18
            refine reset1_spec X1 T1 F19.keep a19.acu a19.adc z3 z4 p5 eP19 gP cP dP (by (clear hn hz hlz hdp p1 p2 p3 p4 p5 hb nn nIL hi hi2 ht ht2 hd2 e0' lt2 nPL cP lP dP qP lt4 tl3; lia)) (by (clear hn hz hlz hdp p1 p2 p3 p4 p5 hb nn nIL hi hi2 ht ht2 hd2 e0' lt2 nPL cP lP dP qP lt3 tl3; lia)) (by (clear hn hz hlz p1 p2 p3 p4 p5 lz hb hne2 hl2 nn nIL hi hi2 ht eI ht2 hd2 e0' lt2 nPL cP lP dP qP lt3 lt4 tl3; omega)) (by (clear hn hz hlz hdp p1 p2 p3 p4 p5 lz hb hne2 hl2 nn nIL hi hi2 ht eI ht2 hd2 e0' lt2 nPL cP lP dP qP lt3 lt4 tl3; omega)) fun h20 tk20 k20 tn20 kp20 e20 d20 => ?_
            have a20 := a19.cd' o kp20 e20 d20
            have F20 := fr_kept F19 N19' kp20 (fun b hb => by
              rcases List.mem_cons.mp hb with rfl | hb
              · exact ⟨_, .tail _ (.tail _ (.tail _ (.head _)))⟩
              · rw [List.mem_singleton.mp hb]; exact ⟨_, .tail _ (.tail _ (.tail _ (.tail _ (.head _))))⟩)
            have A20 : AllAt (TupAt h20) (vs2.drop (t + 1)) ((cs2.drop (t + 1)).map ckd) := by
              rw [List.map_drop]
              exact AllAt.drop (A19.mono fun _ _ z => tup_kept z kp20 N19' (fun b hb => by
                rcases List.mem_cons.mp hb with rfl | hb
                · exact ⟨_, .tail _ (.tail _ (.tail _ (.head _))), by simp⟩
                · rw [List.mem_singleton.mp hb]; exact ⟨_, .tail _ (.tail _ (.tail _ (.tail _ (.head _)))), by simp⟩)) (t + 1)
            clear F19 N19 N19'
            (repeat' (first | (fail_if_success with_reducible refine Nf.go (by constructor) ?_); (fail_if_success fail_if_success with_reducible refine Fd.go (by constructor) ?_; k_fold); refine (let qk := _; let ek := _; (?_ : wpAny _ _ _ qk ek _)) | (fail_if_success fail_if_success k_unfold); (first | with_reducible refine (?_ : wpAny _ _ _ _ _ _) | k_unfold); (try dsimp only); try clear qk ek | (fail_if_success with_reducible refine Stop.go (by constructor) ?_); first | walk1 | dsimp only; walk1))
            exact ret _ hR9 h20 g18 _ _ _ _ _ ps4 qs18 tn20 (a.keepOf o KP F20.keep a20) a20 (hLS.snoc _ _) A20 G18
          · rename Heap => hG; rename Fr _ _ _ _ => F15; rename News _ _ _ _ => N15
            rename _ = _ => e2
            have e0' : d2.length ≠ 0 := by (clear hn hz hlz hdp p1 p2 p3 p4 p5 lz hb hne2 hl2 nn nIL hi hi2 ht eI ht2 hd2; omega)
            rw [item_last e0'] at e2
            refine WkP.next (show Heap.get? _ _ = _ from (N15 _ (.head _)).1) ⟨_, _, _, rfl, toKF [(Str.ofString "self", .ref f), (Str.ofString "ch", .str ⟨#[ch]⟩ tc), (Str.ofString "fws", .str fw tf)] F15 ⟨rfl, rfl, rfl, trivial⟩, fun p hp => N15 p (.tail _ hp), ?_⟩
            rw [in11, innR_miss hc0 e2]
            congr 1
            (clear hn hz hlz hdp p1 p2 p3 p4 p5 lz hb hne2 nn nIL hi hi2 ht ht2 hd2 e0'; omega)
          · rename Heap => hG; rename Fr _ _ _ _ => F15; rename News _ _ _ _ => N15; rename _ = _ => e0
            have e2 : endsC ch (d1, d2) = false := by
              unfold endsC
              have e0' : d2.cps.size = 0 := show d2.length = 0 by (clear hn hz hlz hdp p1 p2 p3 p4 p5 lz hb hne2 hl2 nn nIL hi hi2 ht eI ht2 hd2; lia)
              rw [Array.eq_empty_of_size_eq_zero e0']; rfl
            refine WkP.next (show Heap.get? _ _ = _ from (N15 _ (.head _)).1) ⟨_, _, _, rfl, toKF [(Str.ofString "self", .ref f), (Str.ofString "ch", .str ⟨#[ch]⟩ tc), (Str.ofString "fws", .str fw tf)] F15 ⟨rfl, rfl, rfl, trivial⟩, fun p hp => N15 p (.tail _ hp), ?_⟩
            rw [in11, innR_miss hc0 e2]
            congr 1
            (clear hn hz hlz hdp p1 p2 p3 p4 p5 lz hb hne2 nn nIL hi hi2 ht ht2 hd2 e0; omega)
      · rintro s6 h10 tk10 ⟨h11, tk11, u11, rfl, F11, N11, in11⟩ kk11
        have F12 := Mine.Fr.kept (h' := h10) (D := [hD.objs.size]) F11 (fun b ob hb e => kk11 b ob hb e) (fun b hb => by rw [List.mem_singleton.mp hb]; exact (NE _ (.head _)).2.2) (fun hb => (NE _ (.head _)).2.1 (List.mem_singleton.mp hb).symm)
        have N12 := News.kept (h' := h10) (D := [hD.objs.size]) N11 (fun b ob hb e => kk11 b ob hb e) (fun p hp hb => absurd (lE p hp) (by rw [List.mem_singleton.mp hb]; exact Nat.lt_irrefl _))
        clear F11 N11
        (repeat' (first | (fail_if_success with_reducible refine Nf.go (by constructor) ?_); (fail_if_success fail_if_success with_reducible refine Fd.go (by constructor) ?_; k_fold); refine (let qk := _; let ek := _; (?_ : wpAny _ _ _ qk ek _)) | (fail_if_success fail_if_success k_unfold); (first | with_reducible refine (?_ : wpAny _ _ _ _ _ _) | k_unfold); (try dsimp only); try clear qk ek | (fail_if_success with_reducible refine Stop.go (by constructor) ?_); first | walk1 | dsimp only; walk1))
        refine WkP.cont (hei _ fun p hp => (N12 p (List.mem_append_right _ (List.mem_append_right _ hp))).1) ⟨_, _, _, rfl, toKF [(Str.ofString "self", .ref f), (Str.ofString "fws", .str fw tf)] F12 ⟨rfl, rfl, trivial⟩, fun p (hp : p ∈ fD f fd dC q ls nl vs2 k2' hh tk0 n tn ps4 qs ++ ex) => N12 p ?_, fun j hj c hc => ?_⟩
        · rcases List.mem_append.mp hp with hp | hp
          · exact List.mem_append_left _ hp
          · exact List.mem_append_right _ (List.mem_append_left _ hp)
        · rcases Nat.lt_or_ge j i with h9 | h9
          · exact no6 j h9 c hc
          · have e9 : j = i := by (clear hn hz hlz hdp p1 p2 p3 p4 p5 lz hb hne2 hl2 nn nIL hi; lia)
            subst e9
            rw [Array.getElem?_toList, hci] at hc
            cases hc
            rw [in11, show cs2.length - 1 - (vs2.length - 1) = 0 by rw [hl2]; exact Nat.sub_self _]
            rfl
    · rintro s5 h5 tk5 ⟨h6, tk6, u6, rfl, F6, N6, no6⟩ kk
      clear F4 FK4 N4 FI NI hst
      dsimp only at kk
      have F7 := Mine.Fr.kept (h' := h5) (D := [h4.objs.size]) F6 (fun b ob hb e => kk b ob hb e) (fun b hb => by rw [List.mem_singleton.mp hb]; exact gI) (fun hb => nIL (List.mem_singleton.mp hb).symm)
      have N7 := News.kept (h' := h5) (D := [h4.objs.size]) N6 (fun b ob hb e => kk b ob hb e) (fun p hp hb => absurd (lI p hp) (by rw [List.mem_singleton.mp hb]; exact Nat.lt_irrefl _))
      clear F6 N6 kk
      have hcut : cutAt cs2 q.sp.cps.toList = none := cutAt_none fun j c hc => no6 j (by
        have := (List.getElem?_eq_some_iff.mp hc).1
        simpa using this) c hc
      have hbig : ¬ n + tlen cs2 ≤ q.mx := (by (clear hn hz hlz hdp p1 p2 p3 p4 p5 lz hb hne2 hl2 nn nIL; omega))

      simp only [fD, List.cons_append, List.nil_append] at N7
      (repeat' (first | (fail_if_success with_reducible refine Nf.go (by constructor) ?_); (fail_if_success fail_if_success with_reducible refine Fd.go (by constructor) ?_; k_fold); refine (let qk := _; let ek := _; (?_ : wpAny _ _ _ qk ek _)) | (fail_if_success fail_if_success k_unfold); (first | with_reducible refine (?_ : wpAny _ _ _ _ _ _) | k_unfold); (try dsimp only); try clear qk ek | (fail_if_success with_reducible refine Stop.go (by constructor) ?_); first | walk1 | dsimp only; walk1))
      try dsimp only
      have A7 := hex h5 F7.keep fun p hp => (N7 _ (.tail _ (.tail _ (.tail _ (.tail _ (.tail _ (.tail _ (.tail _ hp)))))))).1
      replace N7 : News g L h5 (fD f fd dC q ls nl vs2 k2' hh tk0 n tn ps4 qs) := fun p hp => N7 p (List.mem_append_left ex hp)
      have a7 : FAt h5 f fd dC q ls nl vs2 k2' hh tk0 n tn ps4 qs := FAt.of N7 (fun p hp => hp) a4.atp a4.atq
      refine pop2_spec (cs := cs2) X1 T1 F7.keep a7.acu a7.adc z3 z4 p5 (by (clear hn hz hlz hdp p1 p2 p3 p4 p5 hb nn nIL; lia)) A7 (by (clear hn hz hlz p1 p2 p3 p4 p5 lz hb hne2 hl2 nn nIL; omega)) (by (clear hn hz hlz hdp p1 p2 p3 p4 p5 lz hb hne2 hl2 nn nIL; omega)) fun h8 tk8 TE8 vs8 cs8 ee8 k8 kp8 e8 A8 tE8 hcs8 => ?_
      have a8 := a7.cu' o kp8 e8
      have F8 := fr_kept F7 N7 kp8 (fun b hb => by rw [List.mem_singleton.mp hb]; exact ⟨_, .tail _ (.tail _ (.tail _ (.head _)))⟩)
      have N8 := a8.news N7 (fun p hp => hp)
      obtain ⟨q1, q2⟩ : vs8 ++ [.ref TE8] = vs2 ∧ cs8 ++ [ee8] = cs2 := by
        rcases hcs8 with h | ⟨-, -, q3, -, -⟩
        · exact h
        · rw [q3] at hne2; exact absurd hne2 (Nat.lt_irrefl _)
      have q3 : cs8 = cs ∧ ee8 = (fw, st) := by
        rw [← hcs2] at q2
        have := List.append_inj' q2 rfl
        exact ⟨this.1, by simpa using this.2⟩
      obtain ⟨rfl, rfl⟩ := q3
      have lz8 : vs8.length < 10000 := by rw [← q1] at lz; simp at lz; (clear hn hz hlz hdp p1 p2 p3 p4 p5 hb hne2 hl2 nn nIL hcs8; lia)
      obtain ⟨T9, x1, x2, eT, hT9⟩ := tE8.pair
      cases eT
      clear F7 N7 a7
      obtain ⟨exx, hexx, Nxx⟩ := all_tail F8 A8
      have N9 : News g L h8 ((f, instObj 94 fd) :: (fd, dictOf (fmtE q) 6) :: (q.ln, listOf ls.toArray nl) :: (q.cu, accObj dC vs8 k8) :: (dC, dictOf (iniE hh tk0 n tn) 1) :: (140, tabObj ps4) :: (147, tabObj qs) :: exx) := Mine.News.app N8 Nxx
      clear N8 Nxx
      try dsimp only
      refine unpackN_ F8 N9 hT9 rfl rfl rfl fun h9 F9 N9' => ?_
      clear F8 N9
      (repeat' (first | (with_reducible show wpAny _ _ (setAttr (Value.ref _) _ _) _ _ _); k_dflt (refine' setL (by k_asm) (by k_asm) (by k_asm) (by exact accInst (by k_asm) (by k_mem) (by k_mem)) (by exact rfl) (by k_is) (by kernel_rfl) (by k_is) (by k_is) (by k_get) (by k_put) (by k_upd) (by exact Nat.le_of_ble_eq_true rfl) ?_); intro _ _ _; (try k_sweep) | (with_reducible show wpAny _ _ (getAttr (Value.ref _) _ _) _ _ _); k_dflt (refine' get_ownL (by k_asm) (by k_asm) (by k_inst) (by k_is) (by k_is) (by k_is) (by k_is) (by k_is) (by k_is) (by k_get) (by k_handed) ?_) | (fail_if_success with_reducible refine Nf.go (by constructor) ?_); (fail_if_success fail_if_success with_reducible refine Fd.go (by constructor) ?_; k_fold); refine (let qk := _; let ek := _; (?_ : wpAny _ _ _ qk ek _)) | (fail_if_success fail_if_success k_unfold); (first | with_reducible refine (?_ : wpAny _ _ _ _ _ _) | k_unfold); (try dsimp only); try clear qk ek | (fail_if_success with_reducible refine Stop.go (by constructor) ?_); first | walk1 | dsimp only; walk1))
      · rename Heap => h10; rename Fr _ _ _ _ => F10; rename News _ _ _ _ => N10; rename _ < n => hn0

        try dsimp only
        have A10 := hexx h10 F10.keep fun p hp => (N10 _ (.tail _ (.tail _ (.tail _ (.tail _ (.tail _ (.tail _ (.tail _ hp)))))))).1
        replace N10 : News g L h10 (fD f fd dC q ls nl vs8 k8 hh tk0 n tn ps4 qs) := fun p hp => N10 p (List.mem_append_left exx hp)
        have a10 : FAt h10 f fd dC q ls nl vs8 k8 hh tk0 n tn ps4 qs := FAt.of N10 (fun p hp => hp) a4.atp a4.atq
        have o1 : FOff g f fd dC q := ⟨(N10 _ (.head _)).2.2, (N10 _ (.tail _ (.head _))).2.2, (N10 _ (.tail _ (.tail _ (.head _)))).2.2, (N10 _ (.tail _ (.tail _ (.tail _ (.head _))))).2.2, (N10 _ (.tail _ (.tail _ (.tail _ (.tail _ (.head _)))))).2.2, (N10 _ (.tail _ (.tail _ (.tail _ (.tail _ (.tail _ (.head _))))))).2.2, (N10 _ (.tail _ (.tail _ (.tail _ (.tail _ (.tail _ (.tail _ (.head _)))))))).2.2, p1, p2, p3, p4, p5⟩
        have tl8 : tlen cs8 ≤ 1000000 := by
          have e9 := tlen_snoc cs8 (fw, st)
          have e8' := clen_nn (fw, st)
          rw [q2] at e9
          (clear hn hz hlz hdp p1 p2 p3 p4 p5 lz hne2 hl2 nIL hcs8 lz8 hn0; lia)
        refine newline_spec (cs := cs8) X1 T1 F10.keep G4 a10 o1 A10 tl8 hn lz8 (fun c hc => hok c (by rw [← q2]; exact List.mem_append_left _ hc)) hLS hlz (by rw [decide_eq_false (by (clear hz hlz hdp p1 p2 p3 p4 p5 lz hb hne2 hl2 nn nIL hcs8 lz8 tl8; lia))]; rfl) (by (clear hn hz hlz p1 p2 p3 p4 p5 lz hb hne2 hl2 nn nIL hcs8 lz8 hn0 tl8; omega)) (by (clear hn hz hlz hdp p1 p2 p3 p4 p5 lz hb hne2 hl2 nn nIL hcs8 lz8 hn0 tl8; omega)) fun h11 g11 tk11 ls11 nl11 k11 ps11 qs11 tn11 kp11 a11 hL11 G11 => ?_
        have F11 := fr_kept F10 N10 kp11 (fun b hb => by
          simp only [List.mem_cons, List.not_mem_nil, or_false] at hb
          rcases hb with rfl | rfl | rfl | rfl | rfl
          · exact ⟨_, .tail _ (.tail _ (.head _))⟩
          · exact ⟨_, .tail _ (.tail _ (.tail _ (.head _)))⟩
          · exact ⟨_, .tail _ (.tail _ (.tail _ (.tail _ (.head _))))⟩
          · exact ⟨_, .tail _ (.tail _ (.tail _ (.tail _ (.tail _ (.head _)))))⟩
          · exact ⟨_, .tail _ (.tail _ (.tail _ (.tail _ (.tail _ (.tail _ (.head _))))))⟩)
        have N11 := a11.news N10 (fun p hp => hp)
        clear F10 N10
        unfold fD at N11
        have hfl : fw.length ≤ 1000000 := by
          have z := clen_le (cs := cs2) (c := (fw, st)) (by rw [← q2]; simp)
          have z' : clen (fw, st) = ((fw.length + st.length : Nat) : Int) := rfl
          (clear hn hz hlz hdp p1 p2 p3 p4 p5 lz hne2 hl2 nIL hcs8 lz8 hn0 tl8; lia)
        (repeat' (first | (fail_if_success with_reducible refine Nf.go (by constructor) ?_); (fail_if_success fail_if_success with_reducible refine Fd.go (by constructor) ?_; k_fold); refine (let qk := _; let ek := _; (?_ : wpAny _ _ _ qk ek _)) | (fail_if_success fail_if_success k_unfold); (first | with_reducible refine (?_ : wpAny _ _ _ _ _ _) | k_unfold); (try dsimp only); try clear qk ek | (fail_if_success with_reducible refine Stop.go (by constructor) ?_); first | walk1 | dsimp only; walk1))
        · have ne0 : ((fw.length : Nat) : Int) ≠ 0 := by assumption
          have hR9 := chunkR_new (LS := LS) hcs2 hbig hcut hn0 (if_neg (str_nonempty (show fw.length ≠ 0 by (clear hn hz hlz hdp p1 p2 p3 p4 p5 lz hb hne2 hl2 nn nIL hcs8 lz8 hn0 tl8 hfl; lia))))
          try dsimp only
          have a11b := a11
          refine push_spec X1 T1 F11.keep a11b.acu a11b.adc z3 z4 p5 (by simp) (by (clear hn hz hlz p1 p2 p3 p4 p5 lz hb hne2 hl2 nn nIL hcs8 lz8 hn0 tl8 hfl ne0; omega)) (by (clear hn hz hlz hdp p1 p2 p3 p4 p5 lz hb hne2 hl2 nn nIL hcs8 lz8 hn0 tl8 hfl ne0; omega)) fun h12 tk12 TE12 kp12 e12 t12 => ?_
          have a12 := a11b.cu' o kp12 e12
          have F12 := fr_kept F11 N11 kp12 (fun b hb => by rw [List.mem_singleton.mp hb]; exact ⟨_, .tail _ (.tail _ (.tail _ (.head _)))⟩)
          have A12 : AllAt (TupAt h12) ([] ++ [.ref TE12]) ([(fw, st)].map ckd) := .cons ⟨TE12, _, 0, rfl, t12, .cons (.s _ _) (.cons (.s _ _) .nil)⟩ .nil
          clear F11 N11
          (repeat' (first | (fail_if_success with_reducible refine Nf.go (by constructor) ?_); (fail_if_success fail_if_success with_reducible refine Fd.go (by constructor) ?_; k_fold); refine (let qk := _; let ek := _; (?_ : wpAny _ _ _ qk ek _)) | (fail_if_success fail_if_success k_unfold); (first | with_reducible refine (?_ : wpAny _ _ _ _ _ _) | k_unfold); (try dsimp only); try clear qk ek | (fail_if_success with_reducible refine Stop.go (by constructor) ?_); first | walk1 | dsimp only; walk1))
          exact ret _ hR9 h12 g11 _ _ _ _ _ ps11 qs11 _ (a.keepOf o KP F12.keep a12) a12 hL11 A12 G11
        · have e00 : ((fw.length : Nat) : Int) = 0 := by assumption
          rename Heap => hY; rename Fr _ _ _ _ => F11b; rename News _ _ _ _ => N11b
          have hR9 := chunkR_new (LS := LS) hcs2 hbig hcut hn0 (if_pos (str_empty (show fw.length = 0 by (clear hn hz hlz hdp p1 p2 p3 p4 p5 lz hb hne2 hl2 nn nIL hcs8 lz8 hn0 tl8 hfl; lia))))
          try dsimp only
          have a11b : FAt hY f fd dC q ls11 nl11 [] k11 hh tk0 0 tn11 ps11 qs11 := FAt.of N11b (fun p hp => hp) a11.atp a11.atq
          refine push_spec X1 T1 F11b.keep a11b.acu a11b.adc z3 z4 p5 (by simp) (by (clear hn hz hlz p1 p2 p3 p4 p5 lz hb hne2 hl2 nn nIL hcs8 lz8 hn0 tl8 hfl e00; omega)) (by (clear hn hz hlz hdp p1 p2 p3 p4 p5 lz hb hne2 hl2 nn nIL hcs8 lz8 hn0 tl8 hfl e00; omega)) fun h12 tk12 TE12 kp12 e12 t12 => ?_
          have a12 := a11b.cu' o kp12 e12
          have F12 := fr_kept F11b N11b kp12 (fun b hb => by rw [List.mem_singleton.mp hb]; exact ⟨_, .tail _ (.tail _ (.tail _ (.head _)))⟩)
          have A12 : AllAt (TupAt h12) ([] ++ [.ref TE12]) ([(Str.ofString " ", st)].map ckd) := .cons ⟨TE12, _, 0, rfl, t12, .cons (.s _ _) (.cons (.s _ _) .nil)⟩ .nil
          clear F11b N11b
          (repeat' (first | (fail_if_success with_reducible refine Nf.go (by constructor) ?_); (fail_if_success fail_if_success with_reducible refine Fd.go (by constructor) ?_; k_fold); refine (let qk := _; let ek := _; (?_ : wpAny _ _ _ qk ek _)) | (fail_if_success fail_if_success k_unfold); (first | with_reducible refine (?_ : wpAny _ _ _ _ _ _) | k_unfold); (try dsimp only); try clear qk ek | (fail_if_success with_reducible refine Stop.go (by constructor) ?_); first | walk1 | dsimp only; walk1))
          exact ret _ hR9 h12 g11 _ _ _ _ _ ps11 qs11 _ (a.keepOf o KP F12.keep a12) a12 hL11 A12 G11
      · rename Heap => h10; rename Fr _ _ _ _ => F10; rename News _ _ _ _ => N10; rename ¬ _ => hn0

        try dsimp only
        have A10 := hexx h10 F10.keep fun p hp => (N10 _ (.tail _ (.tail _ (.tail _ (.tail _ (.tail _ (.tail _ (.tail _ hp)))))))).1
        replace N10 : News g L h10 (fD f fd dC q ls nl vs8 k8 hh tk0 n tn ps4 qs) := fun p hp => N10 p (List.mem_append_left exx hp)
        have a10 : FAt h10 f fd dC q ls nl vs8 k8 hh tk0 n tn ps4 qs := FAt.of N10 (fun p hp => hp) a4.atp a4.atq
        refine push_spec X1 T1 F10.keep a10.acu a10.adc z3 z4 p5 (by (clear hn hz hlz hdp p1 p2 p3 p4 p5 lz hb hne2 hl2 nn nIL hcs8 hn0; lia)) (by (clear hn hz hlz p1 p2 p3 p4 p5 lz hb hne2 hl2 nn nIL hcs8 lz8 hn0; omega)) (by (clear hn hz hlz hdp p1 p2 p3 p4 p5 lz hb hne2 hl2 nn nIL hcs8 lz8 hn0; omega)) fun h12 tk12 TE12 kp12 e12 t12 => ?_
        have a12 := a10.cu' o kp12 e12
        have F12 := fr_kept F10 N10 kp12 (fun b hb => by rw [List.mem_singleton.mp hb]; exact ⟨_, .tail _ (.tail _ (.tail _ (.head _)))⟩)
        have A12 : AllAt (TupAt h12) (vs8 ++ [.ref TE12]) (cs2.map ckd) := by
          rw [← q2, List.map_append]
          exact (A10.mono fun _ _ z => tup_kept z kp12 N10 (fun b hb => by rw [List.mem_singleton.mp hb]; exact ⟨_, .tail _ (.tail _ (.tail _ (.head _))), by simp⟩)).append (.cons ⟨TE12, _, 0, rfl, t12, .cons (.s _ _) (.cons (.s _ _) .nil)⟩ .nil)
        clear F10 N10
        (repeat' (first | (fail_if_success with_reducible refine Nf.go (by constructor) ?_); (fail_if_success fail_if_success with_reducible refine Fd.go (by constructor) ?_; k_fold); refine (let qk := _; let ek := _; (?_ : wpAny _ _ _ qk ek _)) | (fail_if_success fail_if_success k_unfold); (first | with_reducible refine (?_ : wpAny _ _ _ _ _ _) | k_unfold); (try dsimp only); try clear qk ek | (fail_if_success with_reducible refine Stop.go (by constructor) ?_); first | walk1 | dsimp only; walk1))
        exact ret _ (chunkR_old (LS := LS) hcs2 hbig hcut hn0) h12 g4 _ _ _ _ _ ps4 qs _ (a.keepOf o KP F12.keep a12) a12 hLS A12 G4
  · have hR9 := chunkR_fit (sp := q.sp) (LS := LS) hcs2 (show n + tlen cs2 ≤ q.mx from (by (clear hn hz hlz hdp p1 p2 p3 p4 p5 lz hb hne2 hl2 nn; lia)))
    exact ret _ hR9 h4 g4 _ ls nl vs2 k2' ps4 qs tn (a.keepOf o KP F4.keep a4) a4 hLS A4 G4

end
theorem off5 {x a b c d e : Nat} (h1 : x ≠ a) (h2 : x ≠ b) (h3 : x ≠ c) (h4 : x ≠ d) (h5 : x ≠ e) : (x : Addr) ∉ ([a, b, c, d, e] : List Addr) := fun h => by
  simp only [List.mem_cons, List.not_mem_nil, or_false] at h
  rcases h with h | h | h | h | h
  · exact h1 h
  · exact h2 h
  · exact h3 h
  · exact h4 h
  · exact h5 h
section
variable {w : World} {mg mb : Str → Option Value} {mean : ExcName → Option Value} {dp un : Nat} {gd : Option (List Code)} {fr : List Env} {base : Heap} {s : Shared} {Q E : Value → Shared → Prop}
theorem splitroot2_spec
  {x : Str} {t : Tok}
  (X : (Mine.heapK w.params).In base) (T : Top topProg GL mean mg mb base) (hS : base.StaysIn s.heap)
  (hx : x.length ≤ 1000000) (hns : (Txt.slice x none (some 1) != Str.ofString "/") = false) (hn2 : (Txt.slice x (some 1) (some 2) != Str.ofString "/") = true)
  (hdp : dp < 800) (hu : un < 900)
  (ret : ∀ h' tk' P t1 t2 t3, Keep [] s.heap h' → h'.get? P = some (tupOf [.str (Str.ofString "") t1, .str (Str.ofString "/") t2, .str (Txt.slice x (some 1) none) t3] 0) → Q (.ref P) { s with heap := h', toks := tk' }) :
  wpAny (model PySem.Challenge.rw_ik0220_02.row.prog w) (amb dp un gd fr) (call (.ref 318) [.str x t]) Q E s := by
  revert X; k_fill; intro X
  refine wpAny_call ?_
  k_dflt (refine' enterF [(Str.ofString "p", .str x t)] [] ?kX ?kT hS ?kD ?kho ?khcd ?kroom ?kb ?kl ?kr ?_ ?c1 ?c2 ?c3 ?c4; (
  (case kX => assumption); (case kT => assumption); (case kho => k_is); (case khcd => k_is); (case kb => first | exact BindsTo.of_eq rfl | exact binds_K (by k_in) rfl (by k_is) rfl rfl rfl);
  (case kl => exact locs rfl); (case kr => exact rfl); (case c1 => exact rfl); (case c2 => exact rfl); (case c3 => exact rfl); (case c4 => first | decide | exact fun _ => rfl); (case kroom => first | exact rm0 hdp rfl | (simp only [recursionLimit]; omega))); (case kD => exact fun _ hq => no_mem hq))
  intro g L h1 fr' tk F N X1 T1 KP LTs
  refine (let aA := _; let eN := _; let qk := _; let ek := _; (?_ : wpAny _ aA (execs _ eN) qk ek _))
  (repeat' (first | (fail_if_success with_reducible refine Nf.go (by constructor) ?_); (fail_if_success fail_if_success with_reducible refine Fd.go (by constructor) ?_; k_fold); refine (let qk := _; let ek := _; (?_ : wpAny _ _ _ qk ek _)) | (fail_if_success fail_if_success k_unfold); (first | with_reducible refine (?_ : wpAny _ _ _ _ _ _) | k_unfold); (try dsimp only); try clear qk ek | (fail_if_success with_reducible refine Stop.go (by constructor) ?_); first | walk1 | dsimp only; walk1))
  refine fspath_spec X1 T1 F.keep (by omega) (by omega) fun h2 tk2 k2 => ?_
  have F2 := Mine.Fr.kept (h' := h2) (D := []) F k2 (fun b hb => no_mem hb) (fun hb => no_mem hb)
  have N2 : News g L h2 [] := fun _ hp => no_mem hp
  clear F N
  (repeat' (first | (fail_if_success with_reducible refine Nf.go (by constructor) ?_); (fail_if_success fail_if_success with_reducible refine Fd.go (by constructor) ?_; k_fold); refine (let qk := _; let ek := _; (?_ : wpAny _ _ _ qk ek _)) | (fail_if_success fail_if_success k_unfold); (first | with_reducible refine (?_ : wpAny _ _ _ _ _ _) | k_unfold); (try dsimp only); try clear qk ek | (fail_if_success with_reducible refine Stop.go (by constructor) ?_); first | walk1 | dsimp only; walk1))
  rename_i D h3 F3 N3 _
  exact ret h3 _ D _ _ _ (fun b o hb e => F3.keep b o (KP b o hb e)) (N3 _ (.head _)).1

end
section
variable {w : World} {mg mb : Str → Option Value} {mean : ExcName → Option Value} {dp un : Nat} {gd : Option (List Code)} {fr : List Env} {base : Heap} {s : Shared} {Q E : Value → Shared → Prop}
noncomputable def nstepR (stk : List Str) (c : Str) : List Str :=
  if c = Str.ofString "" ∨ c = Str.ofString "." then stk
  else if c ≠ Str.ofString ".." ∨ stk.getLast? = some (Str.ofString "..") then stk ++ [c] else stk.dropLast
noncomputable def normR (x : Str) : Str := Str.ofString "/" ++ Txt.join (Str.ofString "/") ((Txt.split (Txt.slice x (some 1) none) (Str.ofString "/")).foldl nstepR [])
theorem nstepR_skip {st : List Str} {c : Str} (h : c = Str.ofString "" ∨ c = Str.ofString ".") : nstepR st c = st := by simp [nstepR, h]
theorem nstepR_name {st : List Str} {c : Str} (n1 : c ≠ Str.ofString "") (n2 : c ≠ Str.ofString ".") (n3 : c ≠ Str.ofString "..") : nstepR st c = st ++ [c] := by simp [nstepR, n1, n2, n3]
theorem nstepR_up0 : nstepR [] (Str.ofString "..") = [] := by decide +kernel
theorem nstepR_up1 {st : List Str} : nstepR (st ++ [Str.ofString ".."]) (Str.ofString "..") = st ++ [Str.ofString ".."] ++ [Str.ofString ".."] := by simp [nstepR, dd_ne.1, dd_ne.2]
theorem nstepR_up2 {st : List Str} {z : Str} (h : z ≠ Str.ofString "..") : nstepR (st ++ [z]) (Str.ofString "..") = st := by simp [nstepR, dd_ne.1, dd_ne.2, h]
theorem nfoldR_at {xs : List Str} {i : Nat} {c : Str} {st st' : List Str} (hc : xs[i]? = some c) (h : st = (xs.take i).foldl nstepR []) (k : nstepR st c = st') : st' = (xs.take (i + 1)).foldl nstepR [] := by
  rw [take_succ_at hc, List.foldl_append, ← h]
  exact k.symm
theorem nstepR_len (st : List Str) (c : Str) : (nstepR st c).length ≤ st.length + 1 := by
  unfold nstepR
  split
  · lia
  · split
    · simp
    · simp; lia
theorem nfoldR_len : ∀ (xs st : List Str), (xs.foldl nstepR st).length ≤ st.length + xs.length
  | [], st => by simp
  | c :: r, st => by
    have := nfoldR_len r (nstepR st c)
    have h := nstepR_len st c
    simp only [List.foldl_cons, List.length_cons]
    lia
theorem nstepR_sum (st : List Str) (c : Str) : ((nstepR st c).map (·.length)).sum ≤ (st.map (·.length)).sum + c.length := by
  unfold nstepR
  split
  · lia
  · split
    · simp
    · have h : ∀ l : List Str, (l.dropLast.map (·.length)).sum ≤ (l.map (·.length)).sum := fun l => by
        induction l with
        | nil => simp
        | cons a r ih =>
          cases r with
          | nil => simp
          | cons b r => simp only [List.dropLast_cons_cons, List.map_cons, List.sum_cons] at *; lia
      have := h st
      lia
theorem nfoldR_sum : ∀ (xs st : List Str), ((xs.foldl nstepR st).map (·.length)).sum ≤ (st.map (·.length)).sum + (xs.map (·.length)).sum
  | [], st => by simp
  | c :: r, st => by
    have := nfoldR_sum r (nstepR st c)
    have := nstepR_sum st c
    simp only [List.foldl_cons, List.map_cons, List.sum_cons]
    lia
noncomputable abbrev npR (d1 d2 d3 t2 : Tok) (nc : Addr) : List (Str × Value) := [(Str.ofString "dot", .str (Str.ofString ".") d2), (Str.ofString "dotdot", .str (Str.ofString "..") d3), (Str.ofString "sep", .str (Str.ofString "/") d1), (Str.ofString "initial_slashes", .str (Str.ofString "/") t2), (Str.ofString "new_comps", .ref nc)]
noncomputable abbrev normJ (s : Shared) (d1 : Tok) (d2 : Tok) (d3 : Tok) (t2 : Tok) (nc : Addr) (l : List (Str × Tok)) (i : Nat) (g' : Array GenState) (m : Str → Option Value) (news : List (Addr × Obj)) : Prop := g' = s.gens ∧ ∃ u stk vs k, m = KF (npR d1 d2 d3 t2 nc) u ∧ news = [(nc, listOf vs.toArray k)] ∧ StrsAre vs stk ∧ stk = (((l.map (·.1)).take i).foldl nstepR [])
theorem norm2_spec
  {x : Str} {t : Tok}
  (X : (Mine.heapK w.params).In base) (T : Top topProg GL mean mg mb base) (hS : base.StaysIn s.heap)
  (hx : x.length ≤ 100000) (hns : (Txt.slice x none (some 1) != Str.ofString "/") = false) (hn2 : (Txt.slice x (some 1) (some 2) != Str.ofString "/") = true) (hx0 : x.length ≠ 0)
  (hdp : dp < 700) (hu : un < 800)
  (ret : ∀ h' tk' t', Keep [] s.heap h' → Q (.str (normR x) t') { s with heap := h', toks := tk' }) :
  wpAny (model PySem.Challenge.rw_ik0220_02.row.prog w) (amb dp un gd fr) (call (.ref 325) [.str x t]) Q E s := by
  revert X; k_fill; intro X
  refine wpAny_call ?_
  k_dflt (refine' enterF [(Str.ofString "path", .str x t)] [] ?kX ?kT hS ?kD ?kho ?khcd ?kroom ?kb ?kl ?kr ?_ ?c1 ?c2 ?c3 ?c4; (
  (case kX => assumption); (case kT => assumption); (case kho => k_is); (case khcd => k_is); (case kb => first | exact BindsTo.of_eq rfl | exact binds_K (by k_in) rfl (by k_is) rfl rfl rfl);
  (case kl => exact locs rfl); (case kr => exact rfl); (case c1 => exact rfl); (case c2 => exact rfl); (case c3 => exact rfl); (case c4 => first | decide | exact fun _ => rfl); (case kroom => first | exact rm0 hdp rfl | (simp only [recursionLimit]; omega))); (case kD => exact fun _ hq => no_mem hq))
  intro g L h1 fr' tk F N X1 T1 KP LTs
  refine (let aA := _; let eN := _; let qk := _; let ek := _; (?_ : wpAny _ aA (execs _ eN) qk ek _))
  (repeat' (first | (fail_if_success fail_if_success k_unfold); (first | with_reducible refine (?_ : wpAny _ _ _ _ _ _) | k_unfold); try dsimp only | (with_reducible show wpAny _ _ (storeName _ _ _) _ _ _); (try dsimp only); walk1 | (fail_if_success with_reducible refine Stop.go (by constructor) ?_); first | walk1 | dsimp only; walk1))
  refine fspath_spec X1 T1 F.keep (by omega) (by omega) fun h2 tk2 k2 => ?_
  have F2 := Mine.Fr.kept (h' := h2) (D := []) F k2 (fun b hb => no_mem hb) (fun hb => no_mem hb)
  have N2 : News g L h2 [] := fun _ hp => no_mem hp
  clear F N
  (repeat' (first | (fail_if_success fail_if_success k_unfold); (first | with_reducible refine (?_ : wpAny _ _ _ _ _ _) | k_unfold); try dsimp only | (with_reducible show wpAny _ _ (storeName _ _ _) _ _ _); (try dsimp only); walk1 | (fail_if_success with_reducible refine Stop.go (by constructor) ?_); first | walk1 | dsimp only; walk1))
  · rename_i d0 e0 dA d1 dB d2 dC d3 h3 F3 N3 d4 hne
    refine splitroot2_spec X1 T1 F3.keep (by (clear hns hn2 hx0 hdp hu hne; lia)) hns hn2 (by omega) (by omega) fun h4 tk4 P t1 t2 t3 k4 eP => ?_
    have F4 := Mine.Fr.kept (h' := h4) (D := []) F3 k4 (fun b hb => no_mem hb) (fun hb => no_mem hb)
    have N4 : News g L h4 [] := fun _ hp => no_mem hp
    clear F3 N3
    refine unpackN_ F4 N4 (items := #[_, _, _]) ⟨_, eP, rfl, _, rfl⟩ rfl rfl rfl fun h5 F5 N5 => ?_
    clear F4 N4
    have hy : (Txt.slice x (some 1) none).length ≤ 100000 := Nat.le_trans (Txt.slice_le x (some 1) none) hx
    have hR : normR x = Str.ofString "/" ++ Txt.join (Str.ofString "/") ((Txt.split (Txt.slice x (some 1) none) (Str.ofString "/")).foldl nstepR []) := rfl
    generalize Txt.slice x (some 1) none = y at *
    (repeat' (first | (fail_if_success fail_if_success k_unfold); (first | with_reducible refine (?_ : wpAny _ _ _ _ _ _) | k_unfold); try dsimp only | (with_reducible show wpAny _ _ (storeName _ _ _) _ _ _); (try dsimp only); walk1 | (fail_if_success with_reducible refine Stop.go (by constructor) ?_); first | walk1 | dsimp only; walk1))
    rename_i hX tX l eS kX eL eS2 hB eI hY nc hZ lc h6 F6 N6
    have hB' : ∀ c ∈ l.map (·.1), c.length ≤ 100000 := fun c hc => Nat.le_trans (hB c hc) hy
    refine for_list g L hX.objs.size (strValues l) 0 (normJ s d1 d2 d3 t2 nc l) rfl (toKF (npR d1 d2 d3 t2 nc) F6 ⟨rfl, rfl, rfl, rfl, rfl, trivial⟩) (Mine.News.sub N6 (news' := [(hX.objs.size, listOf (strValues l).toArray 0), (nc, listOf #[] 0)]) (by ((try simp only [List.cons_append, List.nil_append]); repeat' (first | exact .head _ | refine .tail _ ?_ | exact List.forall_mem_nil _ | refine List.forall_mem_cons.mpr ⟨?_, ?_⟩ | assumption | intro _ _)))) ⟨rfl, _, [], [], 0, rfl, rfl, .nil, rfl⟩ ?_ ?_ ?_ ?_
    · rintro i g' m news ⟨-, u, stk, vs, k, -, rfl, -, -⟩ p hp
      rw [List.mem_singleton.mp hp]
      simp
    · (repeat' (first | (fail_if_success with_reducible refine Nf.go (by constructor) ?_); (fail_if_success fail_if_success with_reducible refine Fd.go (by constructor) ?_; k_fold); refine (let qk := _; let ek := _; (?_ : wpAny _ _ _ qk ek _)) | (fail_if_success fail_if_success k_unfold); (first | with_reducible refine (?_ : wpAny _ _ _ _ _ _) | k_unfold); (try dsimp only); try clear qk ek | (fail_if_success with_reducible refine StopT.go (by constructor) ?_); (fail_if_success with_reducible refine Stop.go (by constructor) ?_); first | walk1 | dsimp only; walk1))
      try exact ⟨rfl, rfl⟩
    · rintro i v h' g' tk9 m news oI hv ⟨rfl, u, stk, vs, k, rfl, rfl, hA, hst⟩ F7 N7 lI
      ((fail_if_success (fail_if_success k_fold)); refine (let qk := _; let ek := _; (?_ : wpAny _ _ _ qk ek _)))
      obtain ⟨c, tc, rfl, hc⟩ := strValues_at hv
      have hcl : c.length ≤ 100000 := hB' c (List.mem_of_getElem? hc)
      have hl1 := PyProof.Rows.len_le_of_split eL
      have hi : i < l.length := by have := (List.getElem?_eq_some_iff.mp hc).1; simpa using this
      have hsl : stk.length ≤ i := by
        have := nfoldR_len ((l.map (·.1)).take i) []
        rw [← hst] at this
        simp at this
        (clear hx hns hn2 hx0 hdp hu hne lc hcl hl1; lia)
      have hvl : vs.length ≤ 1000002 := by rw [hA.length]; (clear hx hns hn2 hx0 hdp hu hne lc hcl; lia)
      clear F6 N6
      dsimp only at N7 lI
      have o1 : @LT.lt Nat _ hX.objs.size nc := lc
      have o2 : @LT.lt Nat _ nc h6.objs.size := lI _ (.tail _ (.head _))
      have o3 : @LT.lt Nat _ hX.objs.size h6.objs.size := lI _ (.head _)
      (repeat' (first | (fail_if_success with_reducible refine Nf.go (by constructor) ?_); (fail_if_success fail_if_success with_reducible refine Fd.go (by constructor) ?_; k_fold); refine (let qk := _; let ek := _; (?_ : wpAny _ _ _ qk ek _)) | (fail_if_success fail_if_success k_unfold); (first | with_reducible refine (?_ : wpAny _ _ _ _ _ _) | k_unfold); (try dsimp only); try clear qk ek | (fail_if_success with_reducible refine StopT.go (by constructor) ?_); (fail_if_success with_reducible refine Stop.go (by constructor) ?_); first | walk1 | dsimp only; walk1))
      · rename Heap => hM; rename Fr _ _ _ _ => F8; rename News _ _ _ _ => N8; have e2 : (c == Str.ofString ".") = true := by assumption
        have e3 : c = Str.ofString "." := eq_of_beq e2
        exact LpP.cont (news := [(nc, listOf vs.toArray k)]) (toKF (npR d1 d2 d3 t2 nc) F8 ⟨rfl, rfl, rfl, rfl, rfl, trivial⟩) N8 ⟨rfl, _, stk, vs, k, rfl, rfl, hA, nfoldR_at hc hst (nstepR_skip (.inr e3))⟩
      · rename Heap => hM; rename Fr _ _ _ _ => F8; rename News _ _ _ _ => N8; have e2 : (c == Str.ofString ".") = false := by assumption
        have e3 : (c != Str.ofString "..") = true := by assumption
        have ne1 : c ≠ Str.ofString "" := str_nonempty' (by (clear hx hns hn2 hx0 hdp hu hne lc hcl hl1 hi hsl hvl o1 o2 o3 hfact htie e2 e3; lia))
        have ne2 : c ≠ Str.ofString "." := fun q => by rw [q] at e2; simp at e2
        have ne3 : c ≠ Str.ofString ".." := fun q => by rw [q] at e3; simp at e3
        refine append_K F8 N8 (by k_upd) (fun h9 F9 N9 => ?_) (by rw [List.size_toArray, sizeLine_eq]; (clear hx hns hn2 hx0 hdp hu hne lc hcl o1 o2 o3 hfact htie; lia))
        clear F8 N8
        (repeat' (first | (fail_if_success with_reducible refine Nf.go (by constructor) ?_); (fail_if_success fail_if_success with_reducible refine Fd.go (by constructor) ?_; k_fold); refine (let qk := _; let ek := _; (?_ : wpAny _ _ _ qk ek _)) | (fail_if_success fail_if_success k_unfold); (first | with_reducible refine (?_ : wpAny _ _ _ _ _ _) | k_unfold); (try dsimp only); try clear qk ek | (fail_if_success with_reducible refine StopT.go (by constructor) ?_); (fail_if_success with_reducible refine Stop.go (by constructor) ?_); first | walk1 | dsimp only; walk1))
        exact LpP.next (news := [(nc, listOf (vs ++ [Value.str c tc]).toArray (k + 1))]) (toKF (npR d1 d2 d3 t2 nc) F9 ⟨rfl, rfl, rfl, rfl, rfl, trivial⟩) (by simpa using N9) ⟨rfl, _, stk ++ [c], _, _, rfl, rfl, hA.snoc _ _, nfoldR_at hc hst (nstepR_name ne1 ne2 ne3)⟩
      · rename Heap => hM; rename Fr _ _ _ _ => F8; rename News _ _ _ _ => N8; have e2 : (c == Str.ofString ".") = false := by assumption
        have e3 : (c != Str.ofString "..") = false := by assumption
        have ne1 : c ≠ Str.ofString "" := str_nonempty' (by (clear hx hns hn2 hx0 hdp hu hne lc hcl hl1 hi hsl hvl o1 o2 o3 hfact htie e2 e3; omega))
        have ne2 : c ≠ Str.ofString "." := fun q => by rw [q] at e2; simp at e2
        have ne3 : c = Str.ofString ".." := by simpa using e3
        by_cases hvs : vs = []
        · subst hvs
          cases hA
          refine truthy_li0 (N8 _ (.tail _ (.tail _ (.head _)))).1 fun k2 => ?_
          (repeat' (first | (fail_if_success with_reducible refine Nf.go (by constructor) ?_); (fail_if_success fail_if_success with_reducible refine Fd.go (by constructor) ?_; k_fold); refine (let qk := _; let ek := _; (?_ : wpAny _ _ _ qk ek _)) | (fail_if_success fail_if_success k_unfold); (first | with_reducible refine (?_ : wpAny _ _ _ _ _ _) | k_unfold); (try dsimp only); try clear qk ek | (fail_if_success with_reducible refine Stop.go (by constructor) ?_); first | walk1 | dsimp only; walk1))
          exact LpP.next (news := [(nc, listOf ([] : List Value).toArray k)]) (toKF (npR d1 d2 d3 t2 nc) F8 ⟨rfl, rfl, rfl, rfl, rfl, trivial⟩) N8 ⟨rfl, _, [], _, _, rfl, rfl, .nil, nfoldR_at hc hst (by rw [ne3]; exact nstepR_up0)⟩
        · obtain ⟨vs', y', rfl⟩ := snoc_of hvs
          obtain ⟨stk', z, tz, rfl, rfl, hA'⟩ := hA.unsnoc
          have hvl' : vs'.length < 10000000 := by rw [List.length_append, List.length_singleton] at hvl; (clear hx hns hn2 hx0 hdp hu hne lc hcl hl1 hi o1 o2 o3 hfact htie hsl; lia)
          refine truthy_li1 (N8 _ (.tail _ (.tail _ (.head _)))).1 hvl' fun k2 => ?_
          (repeat' (first | (fail_if_success with_reducible refine Nf.go (by constructor) ?_); (fail_if_success fail_if_success with_reducible refine Fd.go (by constructor) ?_; k_fold); refine (let qk := _; let ek := _; (?_ : wpAny _ _ _ qk ek _)) | (fail_if_success fail_if_success k_unfold); (first | with_reducible refine (?_ : wpAny _ _ _ _ _ _) | k_unfold); (try dsimp only); try clear qk ek | (fail_if_success with_reducible refine StopT.go (by constructor) ?_); (fail_if_success with_reducible refine Stop.go (by constructor) ?_); first | walk1 | dsimp only; walk1))
          refine sub_last (N8 _ (.tail _ (.tail _ (.head _)))).1 hvl' ?_
          (repeat' (first | (fail_if_success with_reducible refine Nf.go (by constructor) ?_); (fail_if_success fail_if_success with_reducible refine Fd.go (by constructor) ?_; k_fold); refine (let qk := _; let ek := _; (?_ : wpAny _ _ _ qk ek _)) | (fail_if_success fail_if_success k_unfold); (first | with_reducible refine (?_ : wpAny _ _ _ _ _ _) | k_unfold); (try dsimp only); try clear qk ek | (fail_if_success with_reducible refine StopT.go (by constructor) ?_); (fail_if_success with_reducible refine Stop.go (by constructor) ?_); first | walk1 | dsimp only; walk1))
          · have ez : (z == Str.ofString "..") = true := by assumption
            have ez' : z = Str.ofString ".." := eq_of_beq ez
            refine append_K F8 N8 (by k_upd) (fun h9 F9 N9 => ?_) (by rw [List.size_toArray, sizeLine_eq]; (clear hx hns hn2 hx0 hdp hu hne lc hcl hl1 hi o1 o2 o3 hfact htie hsl hvl'; lia))
            clear F8 N8
            (repeat' (first | (fail_if_success with_reducible refine Nf.go (by constructor) ?_); (fail_if_success fail_if_success with_reducible refine Fd.go (by constructor) ?_; k_fold); refine (let qk := _; let ek := _; (?_ : wpAny _ _ _ qk ek _)) | (fail_if_success fail_if_success k_unfold); (first | with_reducible refine (?_ : wpAny _ _ _ _ _ _) | k_unfold); (try dsimp only); try clear qk ek | (fail_if_success with_reducible refine StopT.go (by constructor) ?_); (fail_if_success with_reducible refine Stop.go (by constructor) ?_); first | walk1 | dsimp only; walk1))
            exact LpP.next (news := [(nc, listOf ((vs' ++ [Value.str z tz]) ++ [Value.str c tc]).toArray (k + 1))]) (toKF (npR d1 d2 d3 t2 nc) F9 ⟨rfl, rfl, rfl, rfl, rfl, trivial⟩) (by simpa using N9) ⟨rfl, _, (stk' ++ [z]) ++ [c], _, _, rfl, rfl, hA.snoc _ _, nfoldR_at hc hst (by rw [ne3, ez']; exact nstepR_up1)⟩
          · have ez : (z == Str.ofString "..") = false := by assumption
            have ez' : z ≠ Str.ofString ".." := fun q => by rw [q] at ez; simp at ez
            refine truthy_li1 (N8 _ (.tail _ (.tail _ (.head _)))).1 hvl' fun k4 => ?_
            (repeat' (first | (fail_if_success with_reducible refine Nf.go (by constructor) ?_); (fail_if_success fail_if_success with_reducible refine Fd.go (by constructor) ?_; k_fold); refine (let qk := _; let ek := _; (?_ : wpAny _ _ _ qk ek _)) | (fail_if_success fail_if_success k_unfold); (first | with_reducible refine (?_ : wpAny _ _ _ _ _ _) | k_unfold); (try dsimp only); try clear qk ek | (fail_if_success with_reducible refine StopT.go (by constructor) ?_); (fail_if_success with_reducible refine Stop.go (by constructor) ?_); first | walk1 | dsimp only; walk1))
            refine kl_pop F8 N8 (p := vs') (y := .str z tz) (kpa_last _ vs') (by k_upd) (by rw [sizeLine_eq]; simp; (clear hx hns hn2 hx0 hdp hu hne lc hcl hl1 hi o1 o2 o3 hfact htie hsl; lia)) fun h9 F9 N9 => ?_
            clear F8 N8
            (repeat' (first | (fail_if_success with_reducible refine Nf.go (by constructor) ?_); (fail_if_success fail_if_success with_reducible refine Fd.go (by constructor) ?_; k_fold); refine (let qk := _; let ek := _; (?_ : wpAny _ _ _ qk ek _)) | (fail_if_success fail_if_success k_unfold); (first | with_reducible refine (?_ : wpAny _ _ _ _ _ _) | k_unfold); (try dsimp only); try clear qk ek | (fail_if_success with_reducible refine StopT.go (by constructor) ?_); (fail_if_success with_reducible refine Stop.go (by constructor) ?_); first | walk1 | dsimp only; walk1))
            exact LpP.next (news := [(nc, listOf vs'.toArray (k + 1))]) (toKF (npR d1 d2 d3 t2 nc) F9 ⟨rfl, rfl, rfl, rfl, rfl, trivial⟩) (by simpa using N9) ⟨rfl, _, stk', _, _, rfl, rfl, hA', nfoldR_at hc hst (by rw [ne3]; exact nstepR_up2 ez')⟩
      · rename Heap => hM; rename Fr _ _ _ _ => F8; rename News _ _ _ _ => N8
        have e3 : c = Str.ofString "" := str_empty' (by (clear hx hns hn2 hx0 hdp hu hne lc hcl hl1 hi hsl hvl o1 o2 o3 hfact htie; lia))
        exact LpP.cont (news := [(nc, listOf vs.toArray k)]) (toKF (npR d1 d2 d3 t2 nc) F8 ⟨rfl, rfl, rfl, rfl, rfl, trivial⟩) N8 ⟨rfl, _, stk, vs, k, rfl, rfl, hA, nfoldR_at hc hst (nstepR_skip (.inl e3))⟩
    · rintro h' g' tk9 m news ⟨rfl, u, stk, vs, k, rfl, rfl, hA, hst⟩ F7 N7
      (repeat' (first | (fail_if_success with_reducible refine Nf.go (by constructor) ?_); (fail_if_success fail_if_success with_reducible refine Fd.go (by constructor) ?_; k_fold); refine (let qk := _; let ek := _; (?_ : wpAny _ _ _ qk ek _)) | (fail_if_success fail_if_success k_unfold); (first | with_reducible refine (?_ : wpAny _ _ _ _ _ _) | k_unfold); (try dsimp only); try clear qk ek | (fail_if_success with_reducible refine Stop.go (by constructor) ?_); first | walk1 | dsimp only; walk1))
      rename Heap => hM; rename Fr _ _ _ _ => F8; rename News _ _ _ _ => N8
      obtain ⟨l9, el, em⟩ := hA.values
      have eparts : (l.map (·.1)).take (strValues l).length = Txt.split y (Str.ofString "/") := by
        rw [← eL]
        refine List.take_of_length_le ?_
        show (l.map (·.1)).length ≤ (l.map fun p => Value.str p.1 p.2).length
        simp
      rw [eparts] at hst
      have w1 := PyProof.Rows.split_weight y (Str.ofString "/") (by decide)
      have w2 := nfoldR_sum (Txt.split y (Str.ofString "/")) []
      have w3 := nfoldR_len (Txt.split y (Str.ofString "/")) []
      rw [← hst] at w2 w3
      have hjo : JoinOk (Str.ofString "/") stk = true := joinOk_of (by
        have e1 : (Str.ofString "/").length = 1 := rfl
        simp only [List.map_nil, List.sum_nil, List.length_nil] at w2 w3
        rw [e1]
        (clear hx hns hn2 hx0 hdp hu hne lc e1; lia))
      have hjl := StrLaws.join_length_le (Str.ofString "/") stk
      refine SC.join (l := l9) ⟨_, (N8 _ (.tail _ (.head _))).1, rfl, _, by rw [el]⟩ em hjo fun t9 k9 => ?_
      have hjl2 : (Txt.join (Str.ofString "/") stk).length ≤ 200002 := by
        have e1 : (Str.ofString "/").length = 1 := rfl
        rw [e1] at hjl
        simp only [List.map_nil, List.sum_nil, List.length_nil] at w2 w3
        rw [show Txt.join (Str.ofString "/") stk = Str.join (Str.ofString "/") stk from StrLaws.glued_eq_join _ _]
        (clear hx hns hn2 hx0 hdp hu hne lc hjo e1; lia)
      rw [← hst] at hR
      have hlR : (Str.ofString "/" ++ Txt.join (Str.ofString "/") stk).length = 1 + (Txt.join (Str.ofString "/") stk).length := Str.length_append _ _
      clear w1 w2 w3 hjl hjo eparts em el hst hA
      (repeat' (first | (fail_if_success with_reducible refine Nf.go (by constructor) ?_); (fail_if_success fail_if_success with_reducible refine Fd.go (by constructor) ?_; k_fold); refine (let qk := _; let ek := _; (?_ : wpAny _ _ _ qk ek _)) | (fail_if_success fail_if_success k_unfold); (first | with_reducible refine (?_ : wpAny _ _ _ _ _ _) | k_unfold); (try dsimp only); try clear qk ek | (fail_if_success with_reducible refine Stop.go (by constructor) ?_); first | walk1 | dsimp only; walk1))
      rename_i F9 N9 _
      rw [← hR]
      exact ret _ _ _ fun b o hb e => F9.keep b o (KP b o hb e)
  · rename_i e0
    exact absurd e0 (by (clear hx hns hn2 hdp hu; lia))

end
section
variable {w : World} {mg mb : Str → Option Value} {mean : ExcName → Option Value} {dp un : Nat} {gd : Option (List Code)} {fr : List Env} {base : Heap} {s : Shared} {Q E : Value → Shared → Prop}
theorem joinP_nil {c q : Str} (h : c.length = 0) : joinP c q = q := by unfold joinP; rw [if_pos h]
theorem joinP_end {c q : Str} (h : c.length ≠ 0) (e : Txt.endswith c (Str.ofString "/") = true) : joinP c q = c ++ q := by unfold joinP; rw [if_neg h, if_pos e]
theorem joinP_mid {c q : Str} (h : c.length ≠ 0) (e : Txt.endswith c (Str.ofString "/") = false) : joinP c q = c ++ (Str.ofString "/" ++ q) := by unfold joinP; rw [if_neg h, if_neg (by rw [e]; decide)]
theorem joinP_len (c q : Str) : (joinP c q).length ≤ c.length + 1 + q.length := by
  have e1 : (Str.ofString "/").length = 1 := rfl
  unfold joinP
  split
  · (clear e1; lia)
  · split
    · rw [Str.length_append]; (clear e1; lia)
    · rw [Str.length_append, Str.length_append]; lia
theorem join3_spec
  {x y z : Str} {t u r : Tok}
  (X : (Mine.heapK w.params).In base) (T : Top topProg GL mean mg mb base) (hS : base.StaysIn s.heap)
  (hx : x.length ≤ 1000) (hy : ∀ q ∈ [y, z], q.length ≤ 1000 ∧ Txt.startswith q (Str.ofString "/") = false)
  (hdp : dp < 700) (hu : un < 800)
  (ret : ∀ h' tk' t', Keep [] s.heap h' → Q (.str (joinP (joinP x y) z) t') { s with heap := h', toks := tk' }) :
  wpAny (model PySem.Challenge.rw_ik0220_02.row.prog w) (amb dp un gd fr) (call (.ref 304) [.str x t, .str y u, .str z r]) Q E s := by
  revert X; k_fill; intro X
  refine wpAny_call ?_
  k_dflt (refine' enterR (vs := [.str y u, .str z r]) (fun P => [(Str.ofString "a", .str x t), (Str.ofString "p", .ref P)]) [] ?kX ?kT hS ?kD ?kho ?khcd ?kroom ?kV ?kP ?kG ?kB ?_ ?c2 ?c3 ?c4 ?c5; (case kX => assumption); (case kT => assumption); (case kho => k_is); (case khcd => k_is); (case kroom => simp only [recursionLimit]; omega); (case kV => rfl); (case kP => exact rfl); (case kG => exact fun _ => rfl); (case kB => exact fun _ => locs rfl); (case c5 => decide); (case c2 => exact rfl); (case c3 => exact rfl); (case c4 => exact rfl); (case kD => exact fun _ hq => no_mem hq))
  intro P g L h1 fr' tk F N X1 T1 KP LTs nP
  refine (let aA := _; let eN := _; let qk := _; let ek := _; (?_ : wpAny _ aA (execs _ eN) qk ek _))
  (repeat' (first | (fail_if_success with_reducible refine Nf.go (by constructor) ?_); (fail_if_success fail_if_success with_reducible refine Fd.go (by constructor) ?_; k_fold); refine (let qk := _; let ek := _; (?_ : wpAny _ _ _ qk ek _)) | (fail_if_success fail_if_success k_unfold); (first | with_reducible refine (?_ : wpAny _ _ _ _ _ _) | k_unfold); (try dsimp only); try clear qk ek | (fail_if_success with_reducible refine Stop.go (by constructor) ?_); first | walk1 | dsimp only; walk1))
  refine fspath_spec X1 T1 F.keep (by omega) (by omega) fun h2 tk2 k2 => ?_
  have F2 := Mine.Fr.kept (h' := h2) (D := []) F k2 (fun b hb => no_mem hb) (fun hb => no_mem hb)
  have N2 := News.kept (h' := h2) (D := []) N k2 (fun p hp hb => no_mem hb)
  clear F N
  (repeat' (first | (fail_if_success with_reducible refine Nf.go (by constructor) ?_); (fail_if_success fail_if_success with_reducible refine Fd.go (by constructor) ?_; k_fold); refine (let qk := _; let ek := _; (?_ : wpAny _ _ _ qk ek _)) | (fail_if_success fail_if_success k_unfold); (first | with_reducible refine (?_ : wpAny _ _ _ _ _ _) | k_unfold); (try dsimp only); try clear qk ek | (fail_if_success with_reducible refine Stop.go (by constructor) ?_); first | walk1 | dsimp only; walk1))
  rename Heap => h3; rename Fr _ _ _ _ => F3; rename News _ _ _ _ => N3
  refine sep_spec X1 T1 F3.keep (by omega) (by omega) fun h4 tk4 tsep k4 => ?_
  have F4 := Mine.Fr.kept (h' := h4) (D := []) F3 k4 (fun b hb => no_mem hb) (fun hb => no_mem hb)
  have N4 := News.kept (h' := h4) (D := []) N3 k4 (fun p hp hb => no_mem hb)
  clear F3 N3
  (repeat' (first | (fail_if_success with_reducible refine Nf.go (by constructor) ?_); (fail_if_success fail_if_success with_reducible refine Fd.go (by constructor) ?_; k_fold); refine (let qk := _; let ek := _; (?_ : wpAny _ _ _ qk ek _)) | (fail_if_success fail_if_success k_unfold); (first | with_reducible refine (?_ : wpAny _ _ _ _ _ _) | k_unfold); (try dsimp only); try clear qk ek | (fail_if_success with_reducible refine Stop.go (by constructor) ?_); first | walk1 | dsimp only; walk1))
  rename Heap => h5; rename Fr _ _ _ _ => F5; rename News _ _ _ _ => N5
  have hA : StrsAre [.str y u, .str z r] [y, z] := .cons (.cons .nil)
  refine wpAny_mono (E := FF) ?_ (fun _ _ z => z) (fun _ _ z => z.elim)
  refine for_tup g L P [.str y u, .str z r] 0 (fun i g' m news => g' = s.gens ∧ news = [] ∧ ∃ c tp v, m = KF [(Str.ofString "sep", .str (Str.ofString "/") tsep), (Str.ofString "path", .str c tp)] v ∧ c = ([y, z].take i).foldl joinP x ∧ c.length ≤ 1000 + 1002 * i) rfl (toKF [(Str.ofString "sep", .str (Str.ofString "/") tsep), (Str.ofString "path", .str x t)] F5 ⟨rfl, rfl, trivial⟩) N5 ⟨rfl, rfl, _, _, _, rfl, rfl, by (clear hdp hu; omega)⟩ ?_ ?_ ?_ ?_
  · rintro i g' m news ⟨-, rfl, -⟩ p hp
    exact no_mem hp
  · (repeat' (first | (fail_if_success with_reducible refine Nf.go (by constructor) ?_); (fail_if_success fail_if_success with_reducible refine Fd.go (by constructor) ?_; k_fold); refine (let qk := _; let ek := _; (?_ : wpAny _ _ _ qk ek _)) | (fail_if_success fail_if_success k_unfold); (first | with_reducible refine (?_ : wpAny _ _ _ _ _ _) | k_unfold); (try dsimp only); try clear qk ek | (fail_if_success with_reducible refine Stop.go (by constructor) ?_); first | walk1 | dsimp only; walk1))
    try exact ⟨rfl, rfl⟩
  · rintro i v h' g' tk9 m news oI hv ⟨rfl, rfl, c, tp, w9, rfl, hc, hl⟩ F7 N7 lI
    obtain ⟨q, tq, rfl, hq⟩ := hA.at' hv
    obtain ⟨hq1, hq2⟩ := hy q (List.mem_of_getElem? hq)
    have hi : i < 2 := (List.getElem?_eq_some_iff.mp hq).1
    have hJ : joinP c q = ([y, z].take (i + 1)).foldl joinP x := by rw [take_succ_at hq, List.foldl_append, ← hc]; rfl
    have hJl := joinP_len c q
    clear F5 N5 hc
    dsimp only at N7 lI
    (repeat' (first | (fail_if_success with_reducible refine Nf.go (by constructor) ?_); (fail_if_success fail_if_success with_reducible refine Fd.go (by constructor) ?_; k_fold); refine (let qk := _; let ek := _; (?_ : wpAny _ _ _ qk ek _)) | (fail_if_success fail_if_success k_unfold); (first | with_reducible refine (?_ : wpAny _ _ _ _ _ _) | k_unfold); (try dsimp only); try clear qk ek | (fail_if_success with_reducible refine Stop.go (by constructor) ?_); first | walk1 | dsimp only; walk1))
    rename Heap => h8; rename Fr _ _ _ _ => F8; rename News _ _ _ _ => N8
    refine fspath_spec X1 T1 F8.keep (by omega) (by omega) fun h9 tk9 k9 => ?_
    have F9 := Mine.Fr.kept (h' := h9) (D := []) F8 k9 (fun b hb => no_mem hb) (fun hb => no_mem hb)
    have N9 := News.kept (h' := h9) (D := []) N8 k9 (fun p hp hb => no_mem hb)
    clear F8 N8
    (repeat' (first | (fail_if_success with_reducible refine Nf.go (by constructor) ?_); (fail_if_success fail_if_success with_reducible refine Fd.go (by constructor) ?_; k_fold); refine (let qk := _; let ek := _; (?_ : wpAny _ _ _ qk ek _)) | (fail_if_success fail_if_success k_unfold); (first | with_reducible refine (?_ : wpAny _ _ _ _ _ _) | k_unfold); (try dsimp only); try clear qk ek | (fail_if_success with_reducible refine Stop.go (by constructor) ?_); first | walk1 | dsimp only; walk1))
    all_goals
      rename_i F10 N10
      first
        | rw [← joinP_end (c := c) (q := q) (by (clear hx hdp hu hl hq1 hq2 hi hJl; lia)) (by assumption)] at F10
        | rw [← joinP_mid (c := c) (q := q) (by (clear hx hdp hu hl hq1 hq2 hi hJl; omega)) (by assumption)] at F10
        | rw [← joinP_nil (c := c) (q := q) (by (clear hx hdp hu hl hq1 hq2 hi hJl; lia))] at F10
      exact LpP.next (news := []) (toKF [(Str.ofString "sep", .str (Str.ofString "/") tsep), (Str.ofString "path", .str (joinP c q) _)] F10 ⟨rfl, rfl, trivial⟩) N10 ⟨rfl, rfl, _, _, _, rfl, hJ, by (clear hx hdp hu hq2 hi; lia)⟩
  · rintro h' g' tk9 m news ⟨rfl, rfl, c, tp, w9, rfl, hc, -⟩ F7 N7
    have e : c = joinP (joinP x y) z := hc
    subst e
    (repeat' (first | (fail_if_success with_reducible refine Nf.go (by constructor) ?_); (fail_if_success fail_if_success with_reducible refine Fd.go (by constructor) ?_; k_fold); refine (let qk := _; let ek := _; (?_ : wpAny _ _ _ qk ek _)) | (fail_if_success fail_if_success k_unfold); (first | with_reducible refine (?_ : wpAny _ _ _ _ _ _) | k_unfold); (try dsimp only); try clear qk ek | (fail_if_success with_reducible refine Stop.go (by constructor) ?_); first | walk1 | dsimp only; walk1))
    exact ret _ _ _ fun b o hb e => F7.keep b o (KP b o hb e)

end
section
variable {w : World} {mg mb : Str → Option Value} {mean : ExcName → Option Value} {dp un : Nat} {gd : Option (List Code)} {fr : List Env} {base : Heap} {s : Shared} {Q E : Value → Shared → Prop}
noncomputable def splitH (x : Str) : Str :=
  if (Txt.slice x none (some (Txt.rfind x (Str.ofString "/") + 1))).length ≠ 0 ∧ (Txt.slice x none (some (Txt.rfind x (Str.ofString "/") + 1)) != Txt.mul (Str.ofString "/") ((Txt.slice x none (some (Txt.rfind x (Str.ofString "/") + 1))).length : Int)) = true
  then Txt.rstripChars (Txt.slice x none (some (Txt.rfind x (Str.ofString "/") + 1))) (Str.ofString "/") else Txt.slice x none (some (Txt.rfind x (Str.ofString "/") + 1))
theorem splitH_cut {x : Str} (h : ((Txt.slice x none (some (Txt.rfind x (Str.ofString "/") + 1))).length : Int) ≠ 0) (k : (Txt.slice x none (some (Txt.rfind x (Str.ofString "/") + 1)) != Txt.mul (Str.ofString "/") ((Txt.slice x none (some (Txt.rfind x (Str.ofString "/") + 1))).length : Int)) = true) : splitH x = Txt.rstripChars (Txt.slice x none (some (Txt.rfind x (Str.ofString "/") + 1))) (Str.ofString "/") := if_pos ⟨fun q => h (by rw [q]; rfl), k⟩
theorem splitH_all {x : Str} (k : (Txt.slice x none (some (Txt.rfind x (Str.ofString "/") + 1)) != Txt.mul (Str.ofString "/") ((Txt.slice x none (some (Txt.rfind x (Str.ofString "/") + 1))).length : Int)) = false) : splitH x = Txt.slice x none (some (Txt.rfind x (Str.ofString "/") + 1)) := if_neg fun q => by rw [k] at q; exact Bool.noConfusion q.2
theorem splitH_none {x : Str} (h : ((Txt.slice x none (some (Txt.rfind x (Str.ofString "/") + 1))).length : Int) = 0) : splitH x = Txt.slice x none (some (Txt.rfind x (Str.ofString "/") + 1)) := if_neg fun q => q.1 (Int.natCast_eq_zero.mp h)
theorem splith_spec
  {x : Str} {t : Tok}
  (X : (Mine.heapK w.params).In base) (T : Top topProg GL mean mg mb base) (hS : base.StaysIn s.heap)
  (hx : x.length ≤ 100000)
  (hdp : dp < 700) (hu : un < 800)
  (ret : ∀ h' tk' P t1 t2, Keep [] s.heap h' → h'.get? P = some (tupOf [.str (splitH x) t1, .str (splitT x) t2] 0) → Q (.ref P) { s with heap := h', toks := tk' }) :
  wpAny (model PySem.Challenge.rw_ik0220_02.row.prog w) (amb dp un gd fr) (call (.ref 311) [.str x t]) Q E s := by
  revert X; k_fill; intro X
  refine wpAny_call ?_
  k_dflt (refine' enterF [(Str.ofString "p", .str x t)] [] ?kX ?kT hS ?kD ?kho ?khcd ?kroom ?kb ?kl ?kr ?_ ?c1 ?c2 ?c3 ?c4; (
  (case kX => assumption); (case kT => assumption); (case kho => k_is); (case khcd => k_is); (case kb => first | exact BindsTo.of_eq rfl | exact binds_K (by k_in) rfl (by k_is) rfl rfl rfl);
  (case kl => exact locs rfl); (case kr => exact rfl); (case c1 => exact rfl); (case c2 => exact rfl); (case c3 => exact rfl); (case c4 => first | decide | exact fun _ => rfl); (case kroom => first | exact rm0 hdp rfl | (simp only [recursionLimit]; omega))); (case kD => exact fun _ hq => no_mem hq))
  intro g L h1 fr' tk F N X1 T1 KP LTs
  refine (let aA := _; let eN := _; let qk := _; let ek := _; (?_ : wpAny _ aA (execs _ eN) qk ek _))
  (repeat' (first | (fail_if_success with_reducible refine Nf.go (by constructor) ?_); (fail_if_success fail_if_success with_reducible refine Fd.go (by constructor) ?_; k_fold); refine (let qk := _; let ek := _; (?_ : wpAny _ _ _ qk ek _)) | (fail_if_success fail_if_success k_unfold); (first | with_reducible refine (?_ : wpAny _ _ _ _ _ _) | k_unfold); (try dsimp only); try clear qk ek | (fail_if_success with_reducible refine Stop.go (by constructor) ?_); first | walk1 | dsimp only; walk1))
  refine fspath_spec X1 T1 F.keep (by omega) (by omega) fun h2 tk2 k2 => ?_
  have F2 := Mine.Fr.kept (h' := h2) (D := []) F k2 (fun b hb => no_mem hb) (fun hb => no_mem hb)
  have N2 : News g L h2 [] := fun _ hp => no_mem hp
  clear F N
  (repeat' (first | (fail_if_success with_reducible refine Nf.go (by constructor) ?_); (fail_if_success fail_if_success with_reducible refine Fd.go (by constructor) ?_; k_fold); refine (let qk := _; let ek := _; (?_ : wpAny _ _ _ qk ek _)) | (fail_if_success fail_if_success k_unfold); (first | with_reducible refine (?_ : wpAny _ _ _ _ _ _) | k_unfold); (try dsimp only); try clear qk ek | (fail_if_success with_reducible refine Stop.go (by constructor) ?_); first | walk1 | dsimp only; walk1))
  rename Heap => h3; rename Fr _ _ _ _ => F3; rename News _ _ _ _ => N3
  refine sep_spec X1 T1 F3.keep (by omega) (by omega) fun h4 tk4 tsep k4 => ?_
  have F4 := Mine.Fr.kept (h' := h4) (D := []) F3 k4 (fun b hb => no_mem hb) (fun hb => no_mem hb)
  have N4 := News.kept (h' := h4) (D := []) N3 k4 (fun p hp hb => no_mem hb)
  clear F3 N3
  (repeat' (first | (fail_if_success with_reducible refine Nf.go (by constructor) ?_); (fail_if_success fail_if_success with_reducible refine Fd.go (by constructor) ?_; k_fold); refine (let qk := _; let ek := _; (?_ : wpAny _ _ _ qk ek _)) | (fail_if_success fail_if_success k_unfold); (first | with_reducible refine (?_ : wpAny _ _ _ _ _ _) | k_unfold); (try dsimp only); try clear qk ek | (fail_if_success with_reducible refine Stop.go (by constructor) ?_); first | walk1 | dsimp only; walk1))
  all_goals rename_i F9 N9 l9
  · exact ret _ _ _ _ _ (fun b o hb e => F9.keep b o (KP b o hb e)) (splitH_cut (by assumption) (by assumption) ▸ (N9 _ (.head _)).1)
  · exact ret _ _ _ _ _ (fun b o hb e => F9.keep b o (KP b o hb e)) (splitH_all (by assumption) ▸ (N9 _ (.head _)).1)
  · exact ret _ _ _ _ _ (fun b o hb e => F9.keep b o (KP b o hb e)) (splitH_none (by assumption) ▸ (N9 _ (.head _)).1)

end
section
variable {w : World} {mg mb : Str → Option Value} {mean : ExcName → Option Value} {dp un : Nat} {gd : Option (List Code)} {fr : List Env} {base : Heap} {s : Shared} {Q E : Value → Shared → Prop}
noncomputable abbrev FRS : List Str := [Str.ofString "a", Str.ofString "b/", Str.ofString "a//b", Str.ofString "../c"]
noncomputable abbrev BKS : List Str := [Str.ofString "", Str.ofString "a", Str.ofString "../b", Str.ofString "./c/."]
noncomputable def rawP (n : Int) : Str := joinP (joinP (Str.ofString "/") (FRS.getD (n / 5 % 4).toNat (Str.ofString ""))) (BKS.getD (n / 20).toNat (Str.ofString ""))
theorem four_at {n : Int} (h0 : 0 ≤ n) (h4 : n < 4) {a b c d : Str} (t0 t1 t2 t3 : Tok) : ∃ t, ([.str a t0, .str b t1, .str c t2, .str d t3] : List Value)[n.toNat]? = some (.str ([a, b, c, d].getD n.toNat (Str.ofString "")) t) := by
  obtain ⟨k, rfl⟩ := Int.eq_ofNat_of_zero_le h0
  match k, h4 with
  | 0, _ => exact ⟨_, rfl⟩
  | 1, _ => exact ⟨_, rfl⟩
  | 2, _ => exact ⟨_, rfl⟩
  | 3, _ => exact ⟨_, rfl⟩
  | k + 4, h => exact absurd h (by (clear h4 h0; omega))
theorem four_ok {n : Int} {l : List Str} (h0 : 0 ≤ n) (h4 : n < 4) (hl : l = FRS ∨ l = BKS) : (l.getD n.toNat (Str.ofString "")).length ≤ 1000 ∧ Txt.startswith (l.getD n.toNat (Str.ofString "")) (Str.ofString "/") = false := by
  obtain ⟨k, rfl⟩ := Int.eq_ofNat_of_zero_le h0
  have all : ∀ l ∈ [FRS, BKS], ∀ k < 4, (l.getD k (Str.ofString "")).length ≤ 1000 ∧ Txt.startswith (l.getD k (Str.ofString "")) (Str.ofString "/") = false := by decide +kernel
  exact all l (by rcases hl with rfl | rfl <;> simp) k (by omega)
theorem raw_spec
  {n : Int} {tn : Tok}
  (X : (Mine.heapK w.params).In base) (T : Top topProg GL mean mg mb base) (hS : base.StaysIn s.heap)
  (h0 : 0 ≤ n) (h80 : n < 80)
  (hdp : dp < 600) (hu : un < 700)
  (ret : ∀ h' tk' t', Keep [] s.heap h' → Q (.str (rawP n) t') { s with heap := h', toks := tk' }) :
  wpAny (model PySem.Challenge.rw_ik0220_02.row.prog w) (amb dp un gd fr) (call (.ref 332) [.int n tn]) Q E s := by
  revert X; k_fill; intro X
  refine wpAny_call ?_
  k_dflt (refine' enterF [(Str.ofString "number", .int n tn)] [] ?kX ?kT hS ?kD ?kho ?khcd ?kroom ?kb ?kl ?kr ?_ ?c1 ?c2 ?c3 ?c4; (
  (case kX => assumption); (case kT => assumption); (case kho => k_is); (case khcd => k_is); (case kb => first | exact BindsTo.of_eq rfl | exact binds_K (by k_in) rfl (by k_is) rfl rfl rfl);
  (case kl => exact locs rfl); (case kr => exact rfl); (case c1 => exact rfl); (case c2 => exact rfl); (case c3 => exact rfl); (case c4 => first | decide | exact fun _ => rfl); (case kroom => first | exact rm0 hdp rfl | (simp only [recursionLimit]; omega))); (case kD => exact fun _ hq => no_mem hq))
  intro g L h1 fr' tk F N X1 T1 KP LTs
  refine (let aA := _; let eN := _; let qk := _; let ek := _; (?_ : wpAny _ aA (execs _ eN) qk ek _))
  have e1 : Int.fmod (Int.fdiv n 5) 4 = n / 5 % 4 := by rw [Int.fdiv_eq_ediv_of_nonneg _ (by decide), Int.fmod_eq_emod_of_nonneg _ (by decide)]
  have e2 : Int.fdiv n 20 = n / 20 := Int.fdiv_eq_ediv_of_nonneg _ (by decide)
  have b1 : 0 ≤ n / 5 % 4 ∧ n / 5 % 4 < 4 := by (clear h0 h80 hdp hu e1 e2; lia)
  have b2 : 0 ≤ n / 20 ∧ n / 20 < 4 := by (clear hdp hu e1 e2 b1; lia)
  (repeat' (first | (fail_if_success with_reducible refine Nf.go (by constructor) ?_); (fail_if_success fail_if_success with_reducible refine Fd.go (by constructor) ?_; k_fold); refine (let qk := _; let ek := _; (?_ : wpAny _ _ _ qk ek _)) | (fail_if_success fail_if_success k_unfold); (first | with_reducible refine (?_ : wpAny _ _ _ _ _ _) | k_unfold); (try dsimp only); try clear qk ek | (fail_if_success with_reducible refine Stop.go (by constructor) ?_); first | walk1 | dsimp only; walk1))
  rename_i l h2 F2 N2 lX
  rw [e1]
  refine sub_list (N2 _ (.head _)).1 b1.1 (by (clear h0 h80 hdp hu e1 e2 b1 b2; lia)) (four_at b1.1 b1.2 _ _ _ _).choose_spec ?_
  (repeat' (first | (fail_if_success with_reducible refine Nf.go (by constructor) ?_); (fail_if_success fail_if_success with_reducible refine Fd.go (by constructor) ?_; k_fold); refine (let qk := _; let ek := _; (?_ : wpAny _ _ _ qk ek _)) | (fail_if_success fail_if_success k_unfold); (first | with_reducible refine (?_ : wpAny _ _ _ _ _ _) | k_unfold); (try dsimp only); try clear qk ek | (fail_if_success with_reducible refine Stop.go (by constructor) ?_); first | walk1 | dsimp only; walk1))
  rename_i l3 h3 F3 N3 lY
  rw [e2]
  refine sub_list (N3 _ (.head _)).1 b2.1 (by (clear hdp hu e1 e2 lY; omega)) (four_at b2.1 b2.2 _ _ _ _).choose_spec ?_
  (repeat' (first | (fail_if_success with_reducible refine Nf.go (by constructor) ?_); (fail_if_success fail_if_success with_reducible refine Fd.go (by constructor) ?_; k_fold); refine (let qk := _; let ek := _; (?_ : wpAny _ _ _ qk ek _)) | (fail_if_success fail_if_success k_unfold); (first | with_reducible refine (?_ : wpAny _ _ _ _ _ _) | k_unfold); (try dsimp only); try clear qk ek | (fail_if_success with_reducible refine Stop.go (by constructor) ?_); first | walk1 | dsimp only; walk1))
  refine join3_spec X1 T1 F3.keep (by decide) (fun q hq => ?_) (by omega) (by omega) fun h4 tk4 t4 k4 => ?_
  · rcases List.mem_cons.mp hq with rfl | hq
    · exact four_ok b1.1 b1.2 (.inl rfl)
    · rw [List.mem_singleton.mp hq]; exact four_ok b2.1 b2.2 (.inr rfl)
  exact ret _ _ _ fun b o hb e => k4 b o hb (F3.keep b o (KP b o hb e))

end
section
variable {w : World} {mg mb : Str → Option Value} {mean : ExcName → Option Value} {dp un : Nat} {gd : Option (List Code)} {fr : List Env} {base : Heap} {s : Shared} {Q E : Value → Shared → Prop}
noncomputable def rstepN (c : Str) (r : Nat × List Str) : Nat × List Str :=
  if c = Str.ofString ".." then (r.1 + 1, r.2)
  else if c = Str.ofString "" ∨ c = Str.ofString "." then r
  else if 0 < r.1 then (r.1 - 1, r.2) else (r.1, c :: r.2)
noncomputable def namesP (x : Str) : List Str := ((Txt.split x (Str.ofString "/")).foldr rstepN (0, [])).2
theorem rstepN_len (c : Str) (r : Nat × List Str) : (rstepN c r).1 ≤ r.1 + 1 ∧ (rstepN c r).2.length ≤ r.2.length + 1 := by
  unfold rstepN
  split
  · exact ⟨Nat.le_refl _, Nat.le_succ _⟩
  · split
    · exact ⟨Nat.le_succ _, Nat.le_succ _⟩
    · split
      · exact ⟨Nat.le_trans (Nat.sub_le _ _) (Nat.le_succ _), Nat.le_succ _⟩
      · exact ⟨Nat.le_succ _, by simp⟩
theorem rfoldN_len : ∀ l : List Str, (l.foldr rstepN (0, [])).1 ≤ l.length ∧ (l.foldr rstepN (0, [])).2.length ≤ l.length
  | [] => by simp
  | c :: r => by
    have h := rfoldN_len r
    have k := rstepN_len c (r.foldr rstepN (0, []))
    rw [List.foldr_cons, List.length_cons]
    exact ⟨by lia, by lia⟩
theorem skip_of {c : Str} (h : (List.any [Str.ofString "", Str.ofString "."] fun x => x == c) = true) : c = Str.ofString "" ∨ c = Str.ofString "." := by
  simp only [List.any_cons, List.any_nil, Bool.or_false, Bool.or_eq_true, beq_iff_eq] at h
  exact h.imp Eq.symm Eq.symm
theorem skip_no {c : Str} (h : (List.any [Str.ofString "", Str.ofString "."] fun x => x == c) = false) : ¬ (c = Str.ofString "" ∨ c = Str.ofString ".") := fun q => by
  simp only [List.any_cons, List.any_nil, Bool.or_false, Bool.or_eq_false_iff, beq_eq_false_iff_ne, ne_eq] at h
  rcases q with q | q
  · exact h.1 q.symm
  · exact h.2 q.symm
theorem strs_val (l : List (Str × Tok)) : StrsAre (strValues l) (l.map (·.1)) := by
  induction l with
  | nil => exact .nil
  | cons x l ih => exact .cons ih
noncomputable abbrev namesJ (s : Shared) (names : List Str) (i : Nat) (g' : Array GenState) (m : Str → Option Value) (news : List (Addr × Obj)) : Prop := g' = s.gens ∧ ∃ r u ka kvs kk tu, r = (names.drop (names.length - i)).foldr rstepN (0, []) ∧ m = KF [(Str.ofString "ups", .int (r.1 : Int) tu), (Str.ofString "kept", .ref ka)] u ∧ news = [(ka, listOf kvs.toArray kk)] ∧ StrsAre kvs r.2
theorem names_spec
  {x : Str} {t : Tok}
  (X : (Mine.heapK w.params).In base) (T : Top topProg GL mean mg mb base) (hS : base.StaysIn s.heap)
  (hx : x.length ≤ 1000)
  (hdp : dp < 700) (hu : un < 800)
  (ret : ∀ h' tk' D kvs kk, Keep [] s.heap h' → s.heap.get? D = none → h'.get? D = some (listOf kvs.toArray kk) → StrsAre kvs (namesP x) → Q (.ref D) { s with heap := h', toks := tk' }) :
  wpAny (model PySem.Challenge.rw_ik0220_02.row.prog w) (amb dp un gd fr) (call (.ref 339) [.str x t]) Q E s := by
  revert X; k_fill; intro X
  refine wpAny_call ?_
  k_dflt (refine' enterF [(Str.ofString "text", .str x t)] [] ?kX ?kT hS ?kD ?kho ?khcd ?kroom ?kb ?kl ?kr ?_ ?c1 ?c2 ?c3 ?c4; (
  (case kX => assumption); (case kT => assumption); (case kho => k_is); (case khcd => k_is); (case kb => first | exact BindsTo.of_eq rfl | exact binds_K (by k_in) rfl (by k_is) rfl rfl rfl);
  (case kl => exact locs rfl); (case kr => exact rfl); (case c1 => exact rfl); (case c2 => exact rfl); (case c3 => exact rfl); (case c4 => first | decide | exact fun _ => rfl); (case kroom => first | exact rm0 hdp rfl | (simp only [recursionLimit]; omega))); (case kD => exact fun _ hq => no_mem hq))
  intro g L h1 fr' tk F N X1 T1 KP LTs
  refine (let aA := _; let eN := _; let qk := _; let ek := _; (?_ : wpAny _ aA (execs _ eN) qk ek _))
  (repeat' (first | (fail_if_success fail_if_success k_unfold); (first | with_reducible refine (?_ : wpAny _ _ _ _ _ _) | k_unfold); try dsimp only | (with_reducible show wpAny _ _ (storeName _ _ _) _ _ _); (try dsimp only); walk1 | (fail_if_success with_reducible refine Stop.go (by constructor) ?_); first | walk1 | dsimp only; walk1))
  rename_i kA0 hX lK hY tU h5 F5 N5
  refine for_NC g L s ?_
  (repeat' (first | (fail_if_success fail_if_success k_unfold); (first | with_reducible refine (?_ : wpAny _ _ _ _ _ _) | k_unfold); try dsimp only | (with_reducible show wpAny _ _ (storeName _ _ _) _ _ _); (try dsimp only); walk1 | (fail_if_success with_reducible refine Stop.go (by constructor) ?_); first | walk1 | dsimp only; walk1))
  rename_i lS hq kq eL eS hB eI I h6 F6 N6 l6
  have hvl : (strValues lS).length = lS.length := List.length_map _
  have hA : StrsAre (strValues lS) (lS.map (·.1)) := strs_val lS
  have o1 : @LT.lt Nat _ h5.objs.size I := l6.1
  have o2 : @LT.lt Nat _ kA0 I := l6.2
  have hnl : (lS.map (·.1)).length ≤ 1002 := by rw [List.length_map]; have := PyProof.Rows.len_le_of_split eL; (clear hdp hu l6 hvl o1 o2; lia)
  generalize hvs : strValues lS = vs at *
  generalize hns : lS.map (·.1) = names at *
  have hvl' : vs.length = names.length := hA.length
  have hl6 : h6.IsList h5.objs.size vs.toArray := ⟨_, (N6 _ (.tail _ (.head _))).1, rfl, _, rfl⟩
  have hI6 : h6.IsRevIter I h5.objs.size ((vs.toArray.size : Int) - 1 - ((0 : Nat) : Int)) := ⟨_, (N6 _ (.head _)).1, rfl, by simp [revObj]⟩
  refine wpAny_pyIter_revIter hI6 ?_
  refine ⟨[(h5.objs.size, listOf vs.toArray 0)], I, vs.toArray.size, _, _, "list_reverseiterator", namesJ s names, rfl, Walks.listRev rfl I h5.objs.size (Nat.ne_of_lt o1) vs.toArray, ?_, ⟨Nat.zero_le _, hI6, hl6⟩, (N6 _ (.head _)).2.2, (N6 _ (.head _)).2.1, ⟨_, _, _, _, [(kA0, listOf ([] : List Value).toArray 0)], rfl, toKF [(Str.ofString "ups", .int 0 tU), (Str.ofString "kept", .ref kA0)] F6 ⟨rfl, rfl, trivial⟩, Mine.News.sub N6 (by ((try simp only [List.cons_append, List.nil_append]); repeat' (first | exact .head _ | refine .tail _ ?_ | exact List.forall_mem_nil _ | refine List.forall_mem_cons.mpr ⟨?_, ?_⟩ | assumption | intro _ _))), rfl, (0, []), _, _, [], 0, _, by simp, rfl, rfl, .nil⟩, ?_, ?_, ?_, ?_⟩
  · rintro i h ⟨-, ⟨o, e, c, -⟩, -⟩
    exact ⟨o, e, c⟩
  · intro p hp
    rw [List.mem_singleton.mp hp]
    simp
  · rintro i g' m news ⟨-, r, u, ka, kvs, kk, tu, -, -, rfl, -⟩ p hp
    rw [List.mem_singleton.mp hp]
    exact .inl (by simp)
  · rintro i v h' g' tk9 m news oI hi hv ⟨rfl, r, u, ka, kvs, kk, tu, hr, rfl, rfl, hk⟩ F7 N7
    have hv2 : vs[vs.length - 1 - i]? = some v := by simpa using hv
    have hi2 : i < names.length := by rw [← hvl']; simpa using hi
    obtain ⟨c, tc, rfl, hcc⟩ := hA.at' hv2
    have hcl : c.length ≤ 1000 := Nat.le_trans (hB c (List.mem_of_getElem? hcc)) hx
    rw [hvl'] at hcc
    have hdrop : names.drop (names.length - (i + 1)) = c :: names.drop (names.length - i) := by
      have e1 : names.length - (i + 1) = names.length - 1 - i := by rw [Nat.sub_sub, Nat.add_comm]
      have e2 : names.length - i = names.length - 1 - i + 1 := by rw [Nat.sub_right_comm]; exact (Nat.sub_add_cancel (Nat.sub_pos_of_lt hi2)).symm
      rw [e1, e2]
      exact (List.getElem?_eq_some_iff.mp hcc).2 ▸ List.drop_eq_getElem_cons (Nat.lt_of_le_of_lt (Nat.sub_le _ _) (Nat.sub_lt (Nat.zero_lt_of_lt hi2) Nat.one_pos))
    have hfold : rstepN c r = (names.drop (names.length - (i + 1))).foldr rstepN (0, []) := by rw [hdrop, List.foldr_cons, ← hr]
    have hbound := rfoldN_len (names.drop (names.length - i))
    rw [← hr] at hbound
    clear hr
    obtain ⟨ru, rk⟩ := r
    dsimp only at hk F7 hbound
    rw [List.length_drop] at hbound
    have hru : ru ≤ 1002 := Nat.le_trans hbound.1 (Nat.le_trans (Nat.sub_le _ _) hnl)
    have hrk : rk.length ≤ 1002 := Nat.le_trans hbound.2 (Nat.le_trans (Nat.sub_le _ _) hnl)
    clear F6 N6 hbound hvl
    (repeat' (first | (fail_if_success with_reducible refine Nf.go (by constructor) ?_); (fail_if_success fail_if_success with_reducible refine Fd.go (by constructor) ?_; k_fold); refine (let qk := _; let ek := _; (?_ : wpAny _ _ _ qk ek _)) | (fail_if_success fail_if_success k_unfold); (first | with_reducible refine (?_ : wpAny _ _ _ _ _ _) | k_unfold); (try dsimp only); try clear qk ek | (fail_if_success with_reducible show wpAny _ _ (binaryOp Operator.Add (Value.ref _) _) _ _ _); (fail_if_success with_reducible refine Stop.go (by constructor) ?_); first | walk1 | dsimp only; walk1))
    · rename Fr _ _ _ _ => F8; rename News _ _ _ _ => N8
      have e1 : (c == Str.ofString "..") = true := by assumption
      have e1' : c = Str.ofString ".." := eq_of_beq e1
      have hs : rstepN c (ru, rk) = (ru + 1, rk) := by simp [rstepN, e1']
      exact LpP.next (news := [(ka, listOf kvs.toArray kk)]) (toKF [(Str.ofString "ups", .int ((ru + 1 : Nat) : Int) _), (Str.ofString "kept", .ref ka)] F8 ⟨rfl, rfl, trivial⟩) N8 ⟨rfl, (ru + 1, rk), _, ka, kvs, kk, _, hs ▸ hfold, rfl, rfl, hk⟩
    · rename Fr _ _ _ _ => F8; rename News _ _ _ _ => N8
      have e1 : (c == Str.ofString "..") = false := by assumption
      have e2 : (List.any [Str.ofString "", Str.ofString "."] fun x => x == c) = true := by assumption
      have e1' : c ≠ Str.ofString ".." := fun q => by rw [q] at e1; simp at e1
      have hs : rstepN c (ru, rk) = (ru, rk) := by unfold rstepN; rw [if_neg e1', if_pos (skip_of e2)]
      exact LpP.next (news := [(ka, listOf kvs.toArray kk)]) (toKF [(Str.ofString "ups", .int (ru : Int) _), (Str.ofString "kept", .ref ka)] F8 ⟨rfl, rfl, trivial⟩) (Mine.News.sub N8 (fun p hp => .tail _ (.tail _ hp))) ⟨rfl, (ru, rk), _, ka, kvs, kk, _, hs ▸ hfold, rfl, rfl, hk⟩
    · rename Fr _ _ _ _ => F8; rename News _ _ _ _ => N8
      have e1 : (c == Str.ofString "..") = false := by assumption
      have e2 : (List.any [Str.ofString "", Str.ofString "."] fun x => x == c) = false := by assumption
      have e3 : (0 : Int) < (ru : Int) := by assumption
      have e1' : c ≠ Str.ofString ".." := fun q => by rw [q] at e1; simp at e1
      have e3' : 0 < ru := Int.ofNat_lt.mp e3
      have hs : rstepN c (ru, rk) = (ru - 1, rk) := by unfold rstepN; rw [if_neg e1', if_neg (skip_no e2), if_pos e3']
      rw [show (ru : Int) - 1 = ((ru - 1 : Nat) : Int) by (clear hx hdp hu l6 o1 o2 hcl hfold hrk e2 e3' hs; lia)] at F8
      exact LpP.next (news := [(ka, listOf kvs.toArray kk)]) (toKF [(Str.ofString "ups", .int ((ru - 1 : Nat) : Int) _), (Str.ofString "kept", .ref ka)] F8 ⟨rfl, rfl, trivial⟩) (Mine.News.sub N8 (fun p hp => .tail _ hp)) ⟨rfl, (ru - 1, rk), _, ka, kvs, kk, _, hs ▸ hfold, rfl, rfl, hk⟩
    · rename Fr _ _ _ _ => F8; rename News _ _ _ _ => N8
      have e1 : (c == Str.ofString "..") = false := by assumption
      have e2 : (List.any [Str.ofString "", Str.ofString "."] fun x => x == c) = false := by assumption
      have e3 : ¬ (0 : Int) < (ru : Int) := by assumption
      have e1' : c ≠ Str.ofString ".." := fun q => by rw [q] at e1; simp at e1
      have e3' : ¬ 0 < ru := fun q => e3 (Int.ofNat_lt.mpr q)
      have hs : rstepN c (ru, rk) = (ru, c :: rk) := by unfold rstepN; rw [if_neg e1', if_neg (skip_no e2), if_neg e3']
      refine kmk_add_lit F8 N8 (its := #[.str c tc]) (its2 := kvs.toArray) (zs := .str c tc :: kvs) ⟨_, (N8 _ (.head _)).1, rfl, _, rfl⟩ ⟨_, (N8 _ (.tail _ (.tail _ (.tail _ (.tail _ (.tail _ (.head _))))))).1, rfl, _, rfl⟩ (by simp) (fun D h9 F9 N9 l9 => ?_) (by
        have e9 := hk.length
        simp [sizeLine_eq]
        (clear hx hdp hu l6 o1 o2 hcl hfold hru e2 e3 e3' hs; lia))
      clear F8 N8
      (repeat' (first | (fail_if_success with_reducible refine Nf.go (by constructor) ?_); (fail_if_success fail_if_success with_reducible refine Fd.go (by constructor) ?_; k_fold); refine (let qk := _; let ek := _; (?_ : wpAny _ _ _ qk ek _)) | (fail_if_success fail_if_success k_unfold); (first | with_reducible refine (?_ : wpAny _ _ _ _ _ _) | k_unfold); (try dsimp only); try clear qk ek | (fail_if_success with_reducible refine Stop.go (by constructor) ?_); first | walk1 | dsimp only; walk1))
      rename Fr _ _ _ _ => F10; rename News _ _ _ _ => N10
      exact LpP.next (news := [(D, listOf (.str c tc :: kvs).toArray 0)]) (toKF [(Str.ofString "ups", .int (ru : Int) _), (Str.ofString "kept", .ref D)] F10 ⟨rfl, rfl, trivial⟩) (Mine.News.sub N10 (by ((try simp only [List.cons_append, List.nil_append]); repeat' (first | exact .head _ | refine .tail _ ?_ | exact List.forall_mem_nil _ | refine List.forall_mem_cons.mpr ⟨?_, ?_⟩ | assumption | intro _ _)))) ⟨rfl, (ru, c :: rk), _, D, _, _, _, hs ▸ hfold, rfl, rfl, .cons hk⟩
  · rintro h' g' tk9 m news ⟨rfl, r, u, ka, kvs, kk, tu, hr, rfl, rfl, hk⟩ F7 N7
    (repeat' (first | (fail_if_success with_reducible refine Nf.go (by constructor) ?_); (fail_if_success fail_if_success with_reducible refine Fd.go (by constructor) ?_; k_fold); refine (let qk := _; let ek := _; (?_ : wpAny _ _ _ qk ek _)) | (fail_if_success fail_if_success k_unfold); (first | with_reducible refine (?_ : wpAny _ _ _ _ _ _) | k_unfold); (try dsimp only); try clear qk ek | (fail_if_success with_reducible refine Stop.go (by constructor) ?_); first | walk1 | dsimp only; walk1))
    rw [show names.length - vs.toArray.size = 0 by rw [List.size_toArray, hvl', Nat.sub_self], List.drop_zero] at hr
    have hnm : namesP x = r.2 := by rw [hr, eL]; rfl
    refine ret _ _ ka kvs kk (fun b o hb e => F7.keep b o (KP b o hb e)) (keep_none KP (N7 _ (.tail _ (.head _))).2.2 (fun hm => no_mem hm)) (N7 _ (.tail _ (.head _))).1 (by rw [hnm]; exact hk)

end
noncomputable def firstSp (i : Nat) : Str := if i = 0 then Str.ofString "" else Str.ofString " "
noncomputable def cksOf (texts : List Str) : List (Str × Str) := texts.zipIdx.map fun p => (firstSp p.2, p.1)
noncomputable def stD (W : Int) (st : List Str × List (Str × Str) × Int) (c : Str × Str) : List Str × List (Str × Str) × Int := chunkR (Str.ofString ";,") W st.1 st.2.1 st.2.2 c
noncomputable def foldD (W head : Int) (cks : List (Str × Str)) : List Str × List (Str × Str) × Int := cks.foldl (stD W) ([], [], head)
noncomputable def rowsE (st : List Str × List (Str × Str) × Int) : List Str := if 0 < st.2.2 + tlen (nlc st.2.1) then st.1 ++ [ctxt (nlc st.2.1)] else st.1
theorem cksOf_at {texts : List Str} {i : Nat} {c : Str} (h : texts[i]? = some c) : (cksOf texts)[i]? = some (firstSp i, c) := by
  unfold cksOf
  rw [List.getElem?_map, List.getElem?_zipIdx, h]
  simp
structure EInv (head : Int) (B N : Nat) (st : List Str × List (Str × Str) × Int) : Prop where
  n0 : 0 ≤ st.2.2 ∧ st.2.2 ≤ head
  cl : st.2.1.length ≤ N
  ll : st.1.length ≤ N
  mem : ∀ c ∈ st.2.1, (c.1 = Str.ofString "" ∨ c.1 = Str.ofString " ") ∧ c.2.length ≤ B ∧ PyData.strOk c.2 = true
theorem stD_inv {head W : Int} {B N : Nat} {st : List Str × List (Str × Str) × Int} (h : EInv head B N st) {c : Str × Str} (hc : (c.1 = Str.ofString "" ∨ c.1 = Str.ofString " ") ∧ c.2.length ≤ B ∧ PyData.strOk c.2 = true) : EInv head B (N + 1) (stD W st c) := by
  obtain ⟨LS, cs, n⟩ := st
  obtain ⟨n0, cl, ll, mem⟩ := h
  dsimp only at n0 cl ll mem
  have mem2 : ∀ d ∈ cs ++ [c], (d.1 = Str.ofString "" ∨ d.1 = Str.ofString " ") ∧ d.2.length ≤ B ∧ PyData.strOk d.2 = true := fun d hd => by
    rcases List.mem_append.mp hd with hd | hd
    · exact mem d hd
    · rw [List.mem_singleton.mp hd]; exact hc
  by_cases hf : n + tlen (cs ++ [c]) ≤ W
  · unfold stD; rw [chunkR_fit rfl hf]
    exact ⟨n0, by rw [List.length_append]; exact Nat.succ_le_succ cl, by dsimp only; (clear n0 cl hf; lia), mem2⟩
  · cases hcut : cutAt (cs ++ [c]) (Str.ofString ";,").cps.toList with
    | some i =>
      unfold stD; rw [chunkR_cut rfl hf hcut]
      exact ⟨⟨Int.le_refl _, by dsimp only; (clear cl ll hf; lia)⟩, by dsimp only; rw [List.length_drop, List.length_append, List.length_singleton]; exact Nat.le_trans (Nat.sub_le _ _) (Nat.succ_le_succ cl), by dsimp only; rw [List.length_append, List.length_singleton]; (clear n0 cl hf; lia), fun d hd => mem2 d (List.mem_of_mem_drop hd)⟩
    | none =>
      by_cases hn : 0 < n
      · unfold stD; rw [chunkR_new rfl hf hcut hn rfl]
        refine ⟨⟨Int.le_refl _, by dsimp only; (clear cl ll hf; lia)⟩, by simp, ?_, fun d hd => ?_⟩
        · dsimp only
          split
          · rw [List.length_append, List.length_singleton]; (clear n0 cl hf hn; lia)
          · (clear n0 cl hf hn; lia)
        · rw [List.mem_singleton.mp hd]
          refine ⟨?_, hc.2⟩
          dsimp only
          split
          · exact .inr rfl
          · exact hc.1
      · unfold stD; rw [chunkR_old rfl hf hcut hn]
        exact ⟨n0, by rw [List.length_append]; exact Nat.succ_le_succ cl, by dsimp only; (clear n0 cl hf hn; omega), mem2⟩
theorem firstSp_or (i : Nat) : firstSp i = Str.ofString "" ∨ firstSp i = Str.ofString " " := by
  unfold firstSp; split
  · exact .inl rfl
  · exact .inr rfl
theorem foldD_inv {head W : Int} {B : Nat} {texts : List Str} (h0 : 0 ≤ head) (ht : ∀ c ∈ texts, c.length ≤ B ∧ PyData.strOk c = true) : ∀ i, EInv head B i (foldD W head ((cksOf texts).take i)) := fun i => by
  induction i with
  | zero => exact ⟨⟨h0, Int.le_refl _⟩, Nat.le_refl _, Nat.le_refl _, fun _ h => nomatch h⟩
  | succ i ih =>
    cases e : texts[i]? with
    | none =>
      have e2 : texts.length ≤ i := List.getElem?_eq_none_iff.mp e
      have hl : (cksOf texts).length = texts.length := by simp [cksOf]
      rw [List.take_of_length_le (by (clear h0; lia))] at ih ⊢
      exact ⟨ih.n0, by have := ih.cl; (clear h0 e2 hl; lia), by have := ih.ll; (clear h0 e2 hl; lia), ih.mem⟩
    | some c =>
      rw [take_succ_at (cksOf_at e)]
      unfold foldD
      rw [List.foldl_append]
      exact stD_inv ih ⟨firstSp_or i, ht c (List.mem_of_getElem? e)⟩
theorem tlen_bound {B : Nat} : ∀ {cs : List (Str × Str)}, (∀ c ∈ cs, (c.1 = Str.ofString "" ∨ c.1 = Str.ofString " ") ∧ c.2.length ≤ B ∧ PyData.strOk c.2 = true) → tlen cs ≤ ((cs.length * (B + 1) : Nat) : Int)
  | [], _ => by simp [tlen]
  | c :: r, h => by
    have ih := tlen_bound (cs := r) fun d hd => h d (.tail _ hd)
    obtain ⟨h1, h2, -⟩ := h c (.head _)
    have hc : clen c = ((c.1.length + c.2.length : Nat) : Int) := rfl
    have h1' : c.1.length ≤ 1 := by
      rcases h1 with h1 | h1 <;> rw [h1] <;> decide
    have e : tlen (c :: r) = clen c + tlen r := by simp [tlen]
    rw [e, hc, List.length_cons, Nat.add_mul, Nat.one_mul]
    lia
theorem marks_plain {i c : Nat} (h : (Str.ofString ";,").cps[i]? = some c) : Txt.isspace ⟨#[c]⟩ = false := by
  have e : (Str.ofString ";,").cps = #[59, 44] := by decide +kernel
  rw [e] at h
  have hi : i < 2 := by have := (Array.getElem?_eq_some_iff.mp h).1; simpa using this
  match i, hi, h with
  | 0, _, h => have : c = 59 := by simpa using h.symm
               subst this; decide +kernel
  | 1, _, h => have : c = 44 := by simpa using h.symm
               subst this; decide +kernel

section
variable {w : World} {mg mb : Str → Option Value} {mean : ExcName → Option Value} {dp un : Nat} {gd : Option (List Code)} {fr : List Env} {base : Heap} {s : Shared} {Q E : Value → Shared → Prop}
theorem written_spec
  {tl : Addr} {tvs : List Value} {kt : Nat} {texts : List Str} {head W : Int} {th tw : Tok} {ps qs : Array Value}
  (X : (Mine.heapK w.params).In base) (T : Top topProg GL mean mg mb base) (hS : base.StaysIn s.heap) (G : AllBare s.gens)
  (hp : s.heap.get? tl = some (listOf tvs.toArray kt)) (hbp : base.get? tl = none) (hA : StrsAre tvs texts)
  (h140 : s.heap.get? 140 = some (tabObj ps)) (hb140 : base.get? 140 = none) (ht140 : TabOk posLen ps) (h147 : s.heap.get? 147 = some (tabObj qs)) (hb147 : base.get? 147 = none) (ht147 : TabOk posStr qs)
  (hn : texts.length ≤ 50) (hok : ∀ c ∈ texts, c.length ≤ 100 ∧ PyData.strOk c = true) (hh0 : 0 ≤ head ∧ head ≤ 10)
  (how : (decide ((foldD W head (cksOf texts)).2.2 = 0) && (decide (tlen (nlc (foldD W head (cksOf texts)).2.1) = 0) || Txt.isspace (ctxt (nlc (foldD W head (cksOf texts)).2.1)))) = false)
  (hjo : JoinOk (Str.ofString "|") (rowsE (foldD W head (cksOf texts))) = true)
  (hdp : dp < 400) (hu : un < 300)
  (ret : ∀ h' g' tk' t', Keep [140, 147] s.heap h' → (∃ ps' qs', h'.get? 140 = some (tabObj ps') ∧ TabOk posLen ps' ∧ h'.get? 147 = some (tabObj qs') ∧ TabOk posStr qs') → AllBare g' → Q (.str (Txt.join (Str.ofString "|") (rowsE (foldD W head (cksOf texts)))) t') { s with heap := h', gens := g', toks := tk' }) :
  wpAny (model PySem.Challenge.rw_ik0220_02.row.prog w) (amb dp un gd fr) (call (.ref 363) [.ref tl, .int head th, .int W tw]) Q E s := by
  have hlow : @Ne Nat tl 140 ∧ @Ne Nat tl 147 := ⟨fun e => by rw [show tl = (140 : Addr) from e, h140] at hp; exact absurd (congrArg Obj.cls (Option.some.inj hp)) (by simp), fun e => by rw [show tl = (147 : Addr) from e, h147] at hp; exact absurd (congrArg Obj.cls (Option.some.inj hp)) (by simp)⟩
  revert X; k_fill; intro X
  refine wpAny_call ?_
  have XS := X.keeps hS
  k_dflt (refine' enterF [(Str.ofString "width", .int W tw), (Str.ofString "head", .int head th), (Str.ofString "texts", .ref tl)] [(tl, listOf tvs.toArray kt), (140, tabObj ps), (147, tabObj qs)] ?kX ?kT hS ?kD ?kho ?khcd ?kroom ?kb ?kl ?kr ?_ ?c1 ?c2 ?c3 ?c4; (
  (case kX => assumption); (case kT => assumption); (case kho => k_is); (case khcd => k_is); (case kb => first | exact BindsTo.of_eq rfl | exact binds_K (by k_in) rfl (by k_is) rfl rfl rfl);
  (case kl => exact locs rfl); (case kr => exact rfl); (case c1 => exact rfl); (case c2 => exact rfl); (case c3 => exact rfl); (case c4 => first | decide | exact fun _ => rfl); (case kroom => first | exact rm0 hdp rfl | (simp only [recursionLimit]; omega))); (case kD => intro q hq'; rcases List.mem_cons.mp hq' with rfl | hq'; exact ⟨hp, hbp⟩; rcases List.mem_cons.mp hq' with rfl | hq'; exact ⟨h140, hb140⟩; rcases List.mem_singleton.mp hq' with rfl; exact ⟨h147, hb147⟩))
  intro g L h1 fr' tk F N X1 T1 KP LTs
  refine (let aA := _; let eN := _; let qk := _; let ek := _; (?_ : wpAny _ aA (execs _ eN) qk ek _))
  clear XS
  (repeat' (first | (fail_if_success with_reducible refine Nf.go (by constructor) ?_); (fail_if_success fail_if_success with_reducible refine Fd.go (by constructor) ?_; k_fold); refine (let qk := _; let ek := _; (?_ : wpAny _ _ _ qk ek _)) | (fail_if_success fail_if_success k_unfold); (first | with_reducible refine (?_ : wpAny _ _ _ _ _ _) | k_unfold); (try dsimp only); try clear qk ek | (fail_if_success with_reducible refine Stop.go (by constructor) ?_); first | walk1 | dsimp only; walk1))
  k_dflt (refine' call_clsS F X1 N ?k1 ?k2 ?k3 ?_; (case k1 => kernel_rfl); (case k2 => k_is); (case k3 => k_is))
  intro f fd h2 F2 N2 l2 l3 z2
  obtain ⟨ob6, e6⟩ : ∃ ob, g.get? 356 = some ob := ⟨_, X1 356 _ (by k_is)⟩
  have p0 : @LT.lt Nat _ 356 fd := z2 356 ob6 (F.keep _ _ e6)
  have l3' : @LT.lt Nat _ fd f := l3
  rw [under_make]
  refine finit_spec X1 T1 F2.keep (N2 _ (.head _)).1 (N2 _ (.tail _ (.head _))).1 (N2 _ (.head _)).2.2 (N2 _ (.tail _ (.head _))).2.2 l3 (by decide) (by (clear hn hh0 how hjo hu hlow p0 l3'; lia)) (by (clear hn hh0 how hjo hdp hlow p0 l3'; lia)) fun h3 tk3 q dC k3 hh tk0 tn0 kp3 e1 e2 e3 f3 d3 ln3 cu3 dc3 nl nc nd o2 o3 o4 => ?_
  refine ⟨rfl, ?_⟩
  dsimp only
  have hL2 : ∀ x, h2.get? x = none → x ≠ L := fun x e q9 => by
    obtain ⟨oL, es, ep, hl, -⟩ := F2.ns
    rw [q9, hl] at e; cases e
  have hg2 : ∀ x, h2.get? x = none → g.get? x = none := fun x e => by
    cases eg : g.get? x with
    | none => rfl
    | some o => rw [F2.keep _ _ eg] at e; cases e
  have F3 := Fr.re2 F2 N2 kp3 (.head _) (.tail _ (.head _))
  have kpx : ∀ b o, (b, o) ∈ [(tl, listOf tvs.toArray kt), (140, tabObj ps), (147, tabObj qs)] → h3.get? b = some o := fun b o hb => kp3 _ _ (fun hm => by
    have lt : @LT.lt Nat _ b fd := l2 _ hb
    simp only [List.mem_cons, List.not_mem_nil, or_false] at hm
    rcases hm with h | h
    · have h' : @Eq Nat b f := h
      (clear hn hh0 how hjo hdp hu hlow p0 e1 o2 o3 o4; lia)
    · have h' : @Eq Nat b fd := h
      (clear hn hh0 how hjo hdp hu hlow p0 l3' e1 o2 o3 o4; lia)) (N2 _ (.tail _ (.tail _ hb))).1
  have a3 : FAt h3 f fd dC q [] 0 [] k3 hh tk0 head tn0 ps qs := ⟨f3, d3, ln3, cu3, dc3, kpx _ _ (.tail _ (.head _)), kpx _ _ (.tail _ (.tail _ (.head _))), ht140, ht147⟩
  have o1 : FOff g f fd dC q := ⟨(N2 _ (.head _)).2.2, (N2 _ (.tail _ (.head _))).2.2, hg2 _ nl, hg2 _ nc, hg2 _ nd, (N2 _ (.tail _ (.tail _ (.tail _ (.head _))))).2.2, (N2 _ (.tail _ (.tail _ (.tail _ (.tail _ (.head _)))))).2.2, by (clear hn hh0 how hjo hdp hu hlow e1 o2 o3 o4; lia), l3, o2, o3, o4⟩
  have N3 : News g L h3 ((tl, listOf tvs.toArray kt) :: fD f fd dC q [] 0 [] k3 hh tk0 head tn0 ps qs) := fun p hp => by
    simp only [fD, List.mem_cons, List.not_mem_nil, or_false] at hp
    rcases hp with rfl | rfl | rfl | rfl | rfl | rfl | rfl | rfl
    · exact ⟨kpx _ _ (.head _), (N2 _ (.tail _ (.tail _ (.head _)))).2⟩
    · exact ⟨f3, (N2 _ (.head _)).2⟩
    · exact ⟨d3, (N2 _ (.tail _ (.head _))).2⟩
    · exact ⟨ln3, hL2 _ nl, hg2 _ nl⟩
    · exact ⟨cu3, hL2 _ nc, hg2 _ nc⟩
    · exact ⟨dc3, hL2 _ nd, hg2 _ nd⟩
    · exact ⟨kpx _ _ (.tail _ (.head _)), (N2 _ (.tail _ (.tail _ (.tail _ (.head _))))).2⟩
    · exact ⟨kpx _ _ (.tail _ (.tail _ (.head _))), (N2 _ (.tail _ (.tail _ (.tail _ (.tail _ (.head _)))))).2⟩
  have pf : @LT.lt Nat _ tl fd := l2 _ (.head _)
  clear F N F2 N2 kpx
  (repeat' (first | (fail_if_success with_reducible refine Nf.go (by constructor) ?_); (fail_if_success fail_if_success with_reducible refine Fd.go (by constructor) ?_; k_fold); refine (let qk := _; let ek := _; (?_ : wpAny _ _ _ qk ek _)) | (fail_if_success fail_if_success k_unfold); (first | with_reducible refine (?_ : wpAny _ _ _ _ _ _) | k_unfold); (try dsimp only); try clear qk ek | (fail_if_success with_reducible refine Stop.go (by constructor) ?_); first | walk1 | dsimp only; walk1))
  rename Heap => h4; rename Fr _ _ _ _ => F4; rename News _ _ _ _ => N4
  refine for_R g L 0 texts.length ((tl, listOf tvs.toArray kt) :: fD f fd dC q [] 0 [] k3 hh tk0 head tn0 ps qs) (fun i g' m news => AllBare g' ∧ ∃ u ls nl vs k n tn ps qs ex, m = KF [(Str.ofString "maker", .ref f), (Str.ofString "texts", .ref tl)] u ∧ news = (tl, listOf tvs.toArray kt) :: (fD f fd dC q ls nl vs k hh tk0 n tn ps qs ++ ex) ∧ TabOk posLen ps ∧ TabOk posStr qs ∧ StrsAre ls (foldD W head ((cksOf texts).take i)).1 ∧ n = (foldD W head ((cksOf texts).take i)).2.2 ∧
    (∀ h', (∀ b ob, g.get? b = some ob → h'.get? b = some ob) → (∀ p ∈ ex, h'.get? p.1 = some p.2) → AllAt (TupAt h') vs ((foldD W head ((cksOf texts).take i)).2.1.map ckd)) ∧ ∀ p ∈ ex, p.2.cls = .type "tuple") rfl (by (clear hh0 how hjo hdp hu hlow l3' e1 pf; lia)) ?_ ?_ ?_ ?_
  · (repeat' (first | (fail_if_success with_reducible refine Nf.go (by constructor) ?_); (fail_if_success fail_if_success with_reducible refine Fd.go (by constructor) ?_; k_fold); refine (let qk := _; let ek := _; (?_ : wpAny _ _ _ qk ek _)) | (fail_if_success fail_if_success k_unfold); (first | with_reducible refine (?_ : wpAny _ _ _ _ _ _) | k_unfold); (try dsimp only); try clear qk ek | (fail_if_success with_reducible refine Stop.go (by constructor) ?_); first | walk1 | dsimp only; walk1))
    refine len_li (N4 _ (.head _)).1 (by have := hA.length; (clear hh0 how hjo hdp hu hlow l3' e1 pf; lia)) fun t5 tk5 => ?_
    (repeat' (first | (fail_if_success with_reducible refine Nf.go (by constructor) ?_); (fail_if_success fail_if_success with_reducible refine Fd.go (by constructor) ?_; k_fold); refine (let qk := _; let ek := _; (?_ : wpAny _ _ _ qk ek _)) | (fail_if_success fail_if_success k_unfold); (first | with_reducible refine (?_ : wpAny _ _ _ _ _ _) | k_unfold); (try dsimp only); try clear qk ek | (fail_if_success with_reducible refine Stop.go (by constructor) ?_); first | walk1 | dsimp only; walk1))
    rename_i hq tq u1 u2 u3 hR FR NR _
    exact RGo.mk hR rfl (by rw [hA.length, Nat.zero_add]) (toKF [(Str.ofString "maker", .ref f), (Str.ofString "texts", .ref tl)] FR ⟨rfl, rfl, trivial⟩) NR ⟨G, _, [], 0, [], k3, head, tn0, ps, qs, [], rfl, by simp, ht140, ht147, .nil, rfl, (fun _ _ _ => .nil), fun _ hp => nomatch hp⟩
  · rintro i g' m news ⟨-, u, ls, nl, vs, k, n, tn, ps, qs, ex, -, rfl, -, -, -, -, -, cx⟩ p hp
    rcases List.mem_cons.mp hp with rfl | hp
    · simp
    rcases List.mem_append.mp hp with hp | hp
    · simp only [fD, List.mem_cons, List.not_mem_nil, or_false] at hp
      rcases hp with rfl | rfl | rfl | rfl | rfl | rfl | rfl <;> simp
    · rw [cx p hp]; simp
  · rintro i ti h' g' tk9 m news I oI hi ⟨G9, u, ls, nl9, vs, k, n9, tn, ps9, qs9, ex, rfl, rfl, t140, t147, hls, hn9, hex, cx⟩ F7 N7 lI
    have hi' : i < tvs.length := by rw [hA.length]; exact hi
    obtain ⟨c, tc, hvc, hc⟩ := hA.at' (List.getElem?_eq_getElem hi')
    have hv : tvs[i]? = some (.str c tc) := by rw [List.getElem?_eq_getElem hi', hvc]
    obtain ⟨hcl, hcok⟩ := hok c (List.mem_of_getElem? hc)
    clear hvc
    have hck := cksOf_at hc
    have inv := foldD_inv (W := W) hh0.1 hok i
    have hst' : foldD W head ((cksOf texts).take (i + 1)) = stD W (foldD W head ((cksOf texts).take i)) (firstSp i, c) := by rw [take_succ_at hck]; unfold foldD; rw [List.foldl_append]; rfl
    generalize hst : foldD W head ((cksOf texts).take i) = st at hls hex hn9 inv hst'
    obtain ⟨LS, cs, n⟩ := st
    dsimp only at hls hex hn9
    subst hn9
    clear F4 N4
    unfold fD at N7
    dsimp only [List.cons_append, List.nil_append] at N7
    repeat' (first | (k_unfold; (try dsimp only)) | ((with_reducible show wpAny _ _ (storeName _ _ _) _ _ _); (try dsimp only); walk1) | ((fail_if_success (with_reducible show wpAny _ _ (eval (Expr.IfExp _ _ _ _) _) _ _ _)); ((fail_if_success with_reducible refine Stop.go (by constructor) ?_); first | walk1 | dsimp only; walk1)))
    rename Heap => h8; rename Fr _ _ _ _ => F8; rename News _ _ _ _ => N8
    try dsimp only at N8
    ((fail_if_success (fail_if_success k_fold)); refine (let qk := _; let ek := _; (?_ : wpAny _ _ _ qk ek _)))
    have key : ∀ (tk9 : Nat) (tf : Tok), qk (.str (firstSp i) tf) { s with heap := h8, gens := g', toks := tk9 } := by
      intro tk9 tf
      (repeat' (first | (fail_if_success with_reducible refine Nf.go (by constructor) ?_); (fail_if_success fail_if_success with_reducible refine Fd.go (by constructor) ?_; k_fold); refine (let qk := _; let ek := _; (?_ : wpAny _ _ _ qk ek _)) | (fail_if_success fail_if_success k_unfold); (first | with_reducible refine (?_ : wpAny _ _ _ _ _ _) | k_unfold); (try dsimp only); try clear qk ek | (fail_if_success with_reducible refine Stop.go (by constructor) ?_); first | walk1 | dsimp only; walk1))
      refine sub_list (v := .str c tc) (N8 _ (.tail _ (.head _))).1 (Int.natCast_nonneg _) (by (clear hh0 how hjo hdp hu hlow l3' e1 pf hcl hcok hst hst'; lia)) (by rw [Int.toNat_natCast, Nat.zero_add]; exact hv) ?_
      (repeat' (first | (fail_if_success with_reducible refine Nf.go (by constructor) ?_); (fail_if_success fail_if_success with_reducible refine Fd.go (by constructor) ?_; k_fold); refine (let qk := _; let ek := _; (?_ : wpAny _ _ _ qk ek _)) | (fail_if_success fail_if_success k_unfold); (first | with_reducible refine (?_ : wpAny _ _ _ _ _ _) | k_unfold); (try dsimp only); try clear qk ek | (fail_if_success with_reducible refine Stop.go (by constructor) ?_); first | walk1 | dsimp only; walk1))
      have q0 : @LT.lt Nat _ tl I := lI _ (.head _)
      have q1 : @LT.lt Nat _ f I := lI _ (.tail _ (.head _))
      have q2 : @LT.lt Nat _ q.ln I := lI _ (.tail _ (.tail _ (.tail _ (.head _))))
      have q3 : @LT.lt Nat _ q.cu I := lI _ (.tail _ (.tail _ (.tail _ (.tail _ (.head _)))))
      have o2' : @LT.lt Nat _ f q.ln := o2
      have o3' : @LT.lt Nat _ q.ln dC := o3
      have o4' : @LT.lt Nat _ dC q.cu := o4
      have A8 := hex h8 F8.keep fun p hp => (N8 p (.tail _ (.tail _ (List.mem_append_right (fD f fd dC q ls nl9 vs k hh tk0 n9 tn ps9 qs9) hp)))).1
      have N8f : News g L h8 (fD f fd dC q ls nl9 vs k hh tk0 n9 tn ps9 qs9) := fun p hp => N8 p (.tail _ (.tail _ (List.mem_append_left ex hp)))
      have a8 : FAt h8 f fd dC q ls nl9 vs k hh tk0 n9 tn ps9 qs9 := FAt.of N8f (fun p hp => hp) t140 t147
      have eI := (N8 _ (.head _)).1
      have eP := (N8 _ (.tail _ (.head _))).1
      have zI := (N8 _ (.head _)).2
      have zP := (N8 _ (.tail _ (.head _))).2
      have hlc : cs.length ≤ 50 := Nat.le_trans inv.cl (by (clear hh0 how hjo hdp hu hlow l3' e1 pf hcl hcok hst hst' q0 q1 q2 q3 o2' o3' o4'; lia))
      have hll : LS.length ≤ 50 := Nat.le_trans inv.ll (by (clear hh0 how hjo hdp hu hlow l3' e1 pf hcl hcok hst hst' q0 q1 q2 q3 o2' o3' o4' hlc; omega))
      have hmem : ∀ c' ∈ cs ++ [(firstSp i, c)], (c'.1 = Str.ofString "" ∨ c'.1 = Str.ofString " ") ∧ c'.2.length ≤ 100 ∧ PyData.strOk c'.2 = true := fun c' h => by
        rcases List.mem_append.mp h with h | h
        · exact inv.mem c' h
        · rw [List.mem_singleton.mp h]; exact ⟨firstSp_or i, hcl, hcok⟩
      have hwt : tlen (cs ++ [(firstSp i, c)]) ≤ 1000000 := by
        have := tlen_bound hmem
        rw [List.length_append, List.length_singleton] at this
        (clear hh0 how hjo hdp hu hlow l3' e1 pf hst hst' q0 q1 q2 q3 o2' o3' o4' hll; lia)
      have hvl : vs.length = cs.length := by simpa using A8.length
      have hn0 := inv.n0
      dsimp only at hn0
      refine chunk_spec (cs := cs) (LS := LS) (fw := firstSp i) (st := c) X1 T1 F8.keep G9 a8 o1 A8 hwt ⟨hn0.1, by (clear hn how hjo hdp hu hlow l3' e1 pf hst hst' q0 q1 q2 q3 o2' o3' o4' hlc hll hwt hvl; lia)⟩ (by (clear hh0 how hjo hdp hu hlow l3' e1 pf hst hst' q0 q1 q2 q3 o2' o3' o4' hll hwt hn0; lia)) hls (by have := hls.length; (clear hh0 how hjo hdp hu hlow l3' e1 pf hst hst' q0 q1 q2 q3 o2' o3' o4' hlc hwt hvl hn0; lia)) (fun c' h => ⟨by rcases (hmem c' h).1 with e | e <;> rw [e] <;> decide +kernel, (hmem c' h).2.2⟩) (fun i c hc => by rw [e3] at hc; exact marks_plain hc) (by omega) (by omega) fun h9 g9 tk9 ls9 nlb vs9 k9 psb qsb tn9 kp9 a9 hl9 A9 G9' => ?_
      rw [e3, e1] at a9 hl9 A9
      have hs : chunkR (Str.ofString ";,") W LS cs n9 (firstSp i, c) = stD W (LS, cs, n9) (firstSp i, c) := rfl
      rw [hs, ← hst'] at a9 hl9 A9
      have F9 := fr_kept F8 N8f kp9 (fun b hb => by
        simp only [List.mem_cons, List.not_mem_nil, or_false] at hb
        rcases hb with rfl | rfl | rfl | rfl | rfl
        · exact ⟨_, .tail _ (.tail _ (.head _))⟩
        · exact ⟨_, .tail _ (.tail _ (.tail _ (.head _)))⟩
        · exact ⟨_, .tail _ (.tail _ (.tail _ (.tail _ (.head _))))⟩
        · exact ⟨_, .tail _ (.tail _ (.tail _ (.tail _ (.tail _ (.head _)))))⟩
        · exact ⟨_, .tail _ (.tail _ (.tail _ (.tail _ (.tail _ (.tail _ (.head _))))))⟩)
      have N9f := a9.news N8f (fun p hp => hp)
      obtain ⟨ex9, hex9, Nx9, cx9⟩ := all_tail2 F9 A9
      have eI9 := kp9 _ _ (off5 (x := I) (by omega) (by omega) (by (clear hn hh0 how hjo hdp hu hlow l3' e1 pf hst hst' q0 q1 q2 o2' hlc hll hwt hvl hn0 hs; lia)) (by (clear hn hh0 how hjo hdp hu hlow e1 pf hst hst' q0 q1 q2 o2' hlc hll hwt hvl hn0 hs; lia)) (by (clear hn hh0 how hjo hdp hu hlow e1 pf hst hst' q0 q1 q2 o2' hlc hll hwt hvl hn0 hs; lia))) eI
      have eP9 := kp9 _ _ (off5 (x := tl) (by (clear hn hh0 how hjo hdp hu hlow e1 hst hst' q0 q1 o2' hlc hll hwt hvl hn0 hs; lia)) (by (clear hn hh0 how hjo hdp hu hlow e1 hst hst' q0 q1 o2' hlc hll hwt hvl hn0 hs; lia)) (by (clear hn hh0 how hjo hdp hu hlow e1 hst hst' q0 q1 o2' hlc hll hwt hvl hn0 hs; lia)) (by (clear hn hh0 how hjo hdp hu e1 pf hst hst' q0 q1 o2' hlc hll hwt hvl hn0 hs; lia)) (by (clear hn hh0 how hjo hdp hu e1 pf hst hst' q0 q1 o2' hlc hll hwt hvl hn0 hs; lia))) eP
      have N9 : News g L h9 ((I, oI) :: (tl, listOf tvs.toArray kt) :: (fD f fd dC q ls9 nlb vs9 k9 hh tk0 _ tn9 psb qsb ++ ex9)) := News.cons (News.cons (Mine.News.app N9f Nx9) eP9 zP.2 zP.1) eI9 zI.2 zI.1
      clear F8 N8 N8f N9f Nx9 eI eP
      (repeat' (first | (fail_if_success with_reducible refine Nf.go (by constructor) ?_); (fail_if_success fail_if_success with_reducible refine Fd.go (by constructor) ?_; k_fold); refine (let qk := _; let ek := _; (?_ : wpAny _ _ _ qk ek _)) | (fail_if_success fail_if_success k_unfold); (first | with_reducible refine (?_ : wpAny _ _ _ _ _ _) | k_unfold); (try dsimp only); try clear qk ek | (fail_if_success with_reducible refine Stop.go (by constructor) ?_); first | walk1 | dsimp only; walk1))
      exact LpP.next (news := (tl, listOf tvs.toArray kt) :: (fD f fd dC q ls9 nlb vs9 k9 hh tk0 _ tn9 psb qsb ++ ex9)) (toKF [(Str.ofString "maker", .ref f), (Str.ofString "texts", .ref tl)] F9 ⟨rfl, rfl, trivial⟩) N9 ⟨G9', _, ls9, nlb, vs9, k9, _, tn9, psb, qsb, ex9, rfl, rfl, a9.atp, a9.atq, hl9, rfl, hex9, cx9⟩
    clear_value qk
    (repeat' (first | (fail_if_success with_reducible refine Nf.go (by constructor) ?_); (fail_if_success fail_if_success with_reducible refine Fd.go (by constructor) ?_; k_fold); refine (let qk := _; let ek := _; (?_ : wpAny _ _ _ qk ek _)) | (fail_if_success fail_if_success k_unfold); (first | with_reducible refine (?_ : wpAny _ _ _ _ _ _) | k_unfold); (try dsimp only); try clear qk ek | (fail_if_success with_reducible refine Stop.go (by constructor) ?_); first | walk1 | dsimp only; walk1))
    · rename_i e0
      have e0' : i = 0 := by (clear hn hh0 how hjo hdp hu hlow l3' e1 pf hcl hcok hst hst'; lia)
      subst e0'
      exact key _ _
    · rename_i e0
      have e0' : i ≠ 0 := by (clear hn hh0 how hjo hdp hu hlow l3' e1 pf hcl hcok hst hst'; lia)
      have ef : firstSp i = Str.ofString " " := if_neg e0'
      rw [ef] at key
      exact key _ _
  · rintro h' g' tk9 m news ⟨G9, u, ls, nl9, vs, k, n9, tn, ps9, qs9, ex, rfl, rfl, t140, t147, hls, hn9, hex, cx⟩ F7 N7
    have inv := foldD_inv (W := W) hh0.1 hok texts.length
    have htake : (cksOf texts).take texts.length = cksOf texts := List.take_of_length_le (by simp [cksOf])
    rw [htake] at hls hex hn9 inv
    generalize hst : foldD W head (cksOf texts) = st at *
    obtain ⟨LS, cs, n⟩ := st
    dsimp only at hls hex hn9 how
    subst hn9
    clear F4 N4
    have o2' : @LT.lt Nat _ f q.ln := o2
    have o3' : @LT.lt Nat _ q.ln dC := o3
    have o4' : @LT.lt Nat _ dC q.cu := o4
    have A7 := hex h' F7.keep fun p hp => (N7 p (.tail _ (List.mem_append_right (fD f fd dC q ls nl9 vs k hh tk0 n9 tn ps9 qs9) hp))).1
    have N7f : News g L h' (fD f fd dC q ls nl9 vs k hh tk0 n9 tn ps9 qs9) := fun p hp => N7 p (.tail _ (List.mem_append_left ex hp))
    have a7 : FAt h' f fd dC q ls nl9 vs k hh tk0 n9 tn ps9 qs9 := FAt.of N7f (fun p hp => hp) t140 t147
    have eP := (N7 _ (.head _)).1
    have zP := (N7 _ (.head _)).2
    have hlc : cs.length ≤ 50 := Nat.le_trans inv.cl hn
    have hll : LS.length ≤ 50 := Nat.le_trans inv.ll hn
    have hwt := tlen_bound inv.mem
    dsimp only at hwt
    have hvl : vs.length = cs.length := by simpa using A7.length
    have hn0 := inv.n0
    dsimp only at hn0
    unfold fD at N7
    dsimp only [List.cons_append, List.nil_append] at N7
    (repeat' (first | (fail_if_success with_reducible refine Nf.go (by constructor) ?_); (fail_if_success fail_if_success with_reducible refine Fd.go (by constructor) ?_; k_fold); refine (let qk := _; let ek := _; (?_ : wpAny _ _ _ qk ek _)) | (fail_if_success fail_if_success k_unfold); (first | with_reducible refine (?_ : wpAny _ _ _ _ _ _) | k_unfold); (try dsimp only); try clear qk ek | (fail_if_success with_reducible refine Stop.go (by constructor) ?_); first | walk1 | dsimp only; walk1))
    refine fstr_spec (cs := cs) (LS := LS) X1 T1 F7.keep G9 a7 o1 A7 (by (clear hh0 hdp hu hlow l3' e1 pf hst how hjo o2' o3' o4' hll hn0; lia)) ⟨hn0.1, by (clear hn hdp hu hlow l3' e1 pf hst how hjo o2' o3' o4' hlc hll hwt hvl; lia)⟩ (by (clear hh0 hdp hu hlow l3' e1 pf hst how hjo o2' o3' o4' hll hwt hn0; lia)) (fun c' h => ⟨by rcases (inv.mem c' h).1 with e | e <;> rw [e] <;> decide +kernel, (inv.mem c' h).2.2⟩) hls (by have := hls.length; (clear hh0 hdp hu hlow l3' e1 pf hst how hjo o2' o3' o4' hlc hwt hvl hn0; lia)) how hjo (by omega) (by omega) fun h9 g9 tk9 t9 kp9 tabs9 G9' => ?_
    have F9 := fr_kept F7 N7f kp9 (fun b hb => by
      simp only [List.mem_cons, List.not_mem_nil, or_false] at hb
      rcases hb with rfl | rfl | rfl | rfl | rfl
      · exact ⟨_, .tail _ (.tail _ (.head _))⟩
      · exact ⟨_, .tail _ (.tail _ (.tail _ (.head _)))⟩
      · exact ⟨_, .tail _ (.tail _ (.tail _ (.tail _ (.head _))))⟩
      · exact ⟨_, .tail _ (.tail _ (.tail _ (.tail _ (.tail _ (.head _)))))⟩
      · exact ⟨_, .tail _ (.tail _ (.tail _ (.tail _ (.tail _ (.tail _ (.head _))))))⟩)
    have eP9 := kp9 _ _ (off5 (x := tl) (by (clear hn hh0 hdp hu hlow e1 hst how hjo o2' hlc hll hwt hvl hn0; lia)) (by (clear hn hh0 hdp hu hlow e1 hst how hjo o2' hlc hll hwt hvl hn0; lia)) (by (clear hn hh0 hdp hu hlow e1 hst how hjo o2' hlc hll hwt hvl hn0; lia)) (by (clear hn hh0 hdp hu l3' e1 pf hst how hjo o2' hlc hll hwt hvl hn0; lia)) (by (clear hn hh0 hdp hu l3' e1 pf hst how hjo o2' hlc hll hwt hvl hn0; lia))) eP
    clear F7 N7 N7f eP
    (repeat' (first | (fail_if_success with_reducible refine Nf.go (by constructor) ?_); (fail_if_success fail_if_success with_reducible refine Fd.go (by constructor) ?_; k_fold); refine (let qk := _; let ek := _; (?_ : wpAny _ _ _ qk ek _)) | (fail_if_success fail_if_success k_unfold); (first | with_reducible refine (?_ : wpAny _ _ _ _ _ _) | k_unfold); (try dsimp only); try clear qk ek | (fail_if_success with_reducible refine Stop.go (by constructor) ?_); first | walk1 | dsimp only; walk1))
    refine ret h9 g9 _ _ (keep_of (D := [(tl, listOf tvs.toArray kt), (140, tabObj ps), (147, tabObj qs)]) (fun q hq => ?_) KP F9.keep fun q hq hn' => ?_) tabs9 G9'
    · simp only [List.mem_cons, List.not_mem_nil, or_false] at hq
      rcases hq with rfl | rfl | rfl
      · exact hp
      · exact h140
      · exact h147
    · simp only [List.mem_cons, List.not_mem_nil, or_false] at hq
      rcases hq with rfl | rfl | rfl
      · exact eP9
      · exact absurd (by simp) hn'
      · exact absurd (by simp) hn'

end
noncomputable abbrev Row := Int × Str × Int
noncomputable abbrev rowD (r : Row) : DD := [.i r.1, .s r.2.1, .i r.2.2]
noncomputable def NDs : List (List Str) := [["a", "b", "a"], ["a", "b", "c"], ["a", "a"], ["a", "b"], ["a", "c"], ["b", "a"], ["b", "c"], ["c", "a"], ["c", "c"], ["a"], ["b"], ["c"], []].map (·.map Str.ofString)
noncomputable def txt (v : List Str) : Str := Str.ofString "/" ++ Txt.join (Str.ofString "/") v
noncomputable abbrev Itm := List Str × Int
noncomputable abbrev itemR (p : Itm) : Row := (-(p.1.length : Int), txt p.1, p.2)
noncomputable def idx (v : List Str) : Nat := NDs.idxOf v
noncomputable def under (v u : List Str) : Bool := decide (u.take v.length = v)
noncomputable def wt (W : List Itm) (v : List Str) : Int := (W.map fun p => if under v p.1 = true then p.2 else 0).sum
noncomputable def alive (F : List Itm) (v : List Str) : Bool := F.any fun p => under v p.1
noncomputable def toldRows (F : List Itm) : List Row := (NDs.filter (alive F)).map fun v => itemR (v, wt F v)
theorem nd_pair : ∀ v ∈ NDs, ∀ u ∈ NDs, (v ≠ u → lexLt [.i (-(v.length : Int)), .s (txt v)] [.i (-(u.length : Int)), .s (txt u)] = decide (idx v < idx u)) ∧ (txt v = txt u → v = u) ∧ (v ≠ u → u ≠ [] → under v u = under v u.dropLast) ∧ (under v u = true → v ≠ u → idx u < idx v) ∧ (idx v = idx u → v = u) ∧ (under v u = true → under v.dropLast u = true) := by decide +kernel
theorem nd_one : ∀ v ∈ NDs, idx v < 13 ∧ (v ≠ [] → v.dropLast ∈ NDs ∧ idx v < idx v.dropLast) ∧ under v v = true ∧ (v.length ≤ 3 ∧ (txt v).length ≤ 6 ∧ (v = [] ↔ txt v = Str.ofString "/")) := by decide +kernel
theorem nd_sorted : NDs.Pairwise (fun a b => idx a < idx b) := by decide +kernel
theorem lex3 (p q p' q' : Pv) (x y : Pv) (h : ¬ (p = p' ∧ q = q')) : lexLt [p, q, x] [p', q', y] = lexLt [p, q] [p', q'] := by
  simp only [lexLt]
  by_cases e : p = p'
  · rw [if_pos e, if_pos e]
    have e2 : ¬ q = q' := fun e2 => h ⟨e, e2⟩
    rw [if_neg e2, if_neg e2]
  · rw [if_neg e, if_neg e]
theorem item_lt {v u : List Str} {n m : Int} (hv : v ∈ NDs) (hu : u ∈ NDs) (h : v ≠ u) : lexLt (rowD (itemR (v, n))) (rowD (itemR (u, m))) = decide (idx v < idx u) := by
  have hp := nd_pair v hv u hu
  have e := lex3 (.i (-(v.length : Int))) (.s (txt v)) (.i (-(u.length : Int))) (.s (txt u)) (.i n) (.i m) (fun q => h (hp.2.1 (Pv.s.inj q.2)))
  exact e.trans (hp.1 h)
structure TInv (F W : List Itm) (T : List (List Str)) : Prop where
  wn : ∀ p ∈ W, p.1 ∈ NDs ∧ 0 < p.2 ∧ alive F p.1 = true
  tn : ∀ t ∈ T, t ∈ NDs ∧ alive F t = true
  srt : T.Pairwise (fun a b => idx a < idx b)
  sep : ∀ p ∈ W, ∀ t ∈ T, idx t < idx p.1
  sum : ∀ v ∈ NDs, v ∉ T → wt W v = wt F v
theorem wt_cons (p : Itm) (W : List Itm) (v : List Str) : wt (p :: W) v = (if under v p.1 = true then p.2 else 0) + wt W v := by simp [wt]
theorem wt_perm {W W' : List Itm} (h : W.Perm W') (v : List Str) : wt W v = wt W' v := by
  induction h with
  | nil => rfl
  | cons p _ ih => rw [wt_cons, wt_cons, ih]
  | swap p q l => rw [wt_cons, wt_cons, wt_cons, wt_cons]; lia
  | trans _ _ h1 h2 => exact h1.trans h2
theorem TInv.start {F : List Itm} (h : ∀ p ∈ F, p.1 ∈ NDs ∧ 0 < p.2) : TInv F F [] :=
  ⟨fun p hp => ⟨(h p hp).1, (h p hp).2, List.any_eq_true.mpr ⟨p, hp, (nd_one _ (h p hp).1).2.2.1⟩⟩, fun _ h => (no_mem h), .nil, fun _ _ _ h => (no_mem h), fun _ _ _ => rfl⟩
theorem TInv.perm {F W W' : List Itm} {T : List (List Str)} (x : TInv F W T) (h : W'.Perm W) : TInv F W' T :=
  ⟨fun p hp => x.wn p (h.subset hp), x.tn, x.srt, fun p hp => x.sep p (h.subset hp), fun v hv ht => (wt_perm h v).trans (x.sum v hv ht)⟩
theorem TInv.merge {F W : List Itm} {T : List (List Str)} {v : List Str} {a b : Int} (x : TInv F ((v, a) :: (v, b) :: W) T) : TInv F ((v, a + b) :: W) T := by
  have h1 := x.wn _ (.head _)
  have h2 := x.wn _ (.tail _ (.head _))
  refine ⟨fun p hp => ?_, x.tn, x.srt, fun p hp => ?_, fun u hu ht => ?_⟩
  · rcases List.mem_cons.mp hp with rfl | hp
    · exact ⟨h1.1, Int.add_pos h1.2.1 h2.2.1, h1.2.2⟩
    · exact x.wn p (.tail _ (.tail _ hp))
  · rcases List.mem_cons.mp hp with rfl | hp
    · exact x.sep (v, a) (.head _)
    · exact x.sep p (.tail _ (.tail _ hp))
  · rw [← x.sum u hu ht, wt_cons, wt_cons, wt_cons]
    dsimp only
    split <;> (clear h1 h2; lia)
theorem wt_zero {W : List Itm} {v : List Str} (h : ∀ p ∈ W, under v p.1 = false) : wt W v = 0 := by
  induction W with
  | nil => rfl
  | cons p W ih => rw [wt_cons, ih fun q hq => h q (.tail _ hq), h p (.head _)]; rfl
theorem TInv.full {F W : List Itm} {T : List (List Str)} {v : List Str} {a : Int} (x : TInv F ((v, a) :: W) T) (lt : ∀ p ∈ W, idx v < idx p.1) : a = wt F v := by
  have h1 := x.wn _ (.head _)
  have hT : v ∉ T := fun h => Nat.lt_irrefl _ (x.sep _ (.head _) v h)
  rw [← x.sum v h1.1 hT, wt_cons, wt_zero fun p hp => ?_]
  · dsimp only
    rw [if_pos (nd_one v h1.1).2.2.1, Int.add_zero]
  · have hp1 := (x.wn p (.tail _ hp)).1
    cases e : under v p.1 with
    | false => rfl
    | true =>
      have hne : v ≠ p.1 := fun q => Nat.lt_irrefl _ (q ▸ lt p hp : idx v < idx v)
      exact absurd ((nd_pair v h1.1 p.1 hp1).2.2.2.1 e hne) (Nat.not_lt.mpr (Nat.le_of_lt (lt p hp)))
theorem TInv.told {F W : List Itm} {T : List (List Str)} {v : List Str} {a : Int} (x : TInv F ((v, a) :: W) T) (lt : ∀ p ∈ W, idx v < idx p.1) : (∀ t ∈ T ++ [v], t ∈ NDs ∧ alive F t = true) ∧ (T ++ [v]).Pairwise (fun a b => idx a < idx b) ∧ (∀ p ∈ W, ∀ t ∈ T ++ [v], idx t < idx p.1) := by
  have h1 := x.wn _ (.head _)
  refine ⟨fun t ht => ?_, ?_, fun p hp t ht => ?_⟩
  · rcases List.mem_append.mp ht with ht | ht
    · exact x.tn t ht
    · rw [List.mem_singleton.mp ht]; exact ⟨h1.1, h1.2.2⟩
  · rw [List.pairwise_append]
    refine ⟨x.srt, List.pairwise_singleton _ _, fun t ht u hu => ?_⟩
    rw [List.mem_singleton.mp hu]
    exact x.sep _ (.head _) t ht
  · rcases List.mem_append.mp ht with ht | ht
    · exact x.sep p (.tail _ hp) t ht
    · rw [List.mem_singleton.mp ht]; exact lt p hp
theorem alive_up {F : List Itm} {v : List Str} (hF : ∀ p ∈ F, p.1 ∈ NDs ∧ 0 < p.2) (hv : v ∈ NDs) (h : alive F v = true) : alive F v.dropLast = true := by
  obtain ⟨p, hp, e⟩ := List.any_eq_true.mp h
  exact List.any_eq_true.mpr ⟨p, hp, (nd_pair v hv p.1 (hF p hp).1).2.2.2.2.2 e⟩
theorem TInv.up {F W : List Itm} {T : List (List Str)} {v : List Str} {a : Int} (hF : ∀ p ∈ F, p.1 ∈ NDs ∧ 0 < p.2) (x : TInv F ((v, a) :: W) T) (lt : ∀ p ∈ W, idx v < idx p.1) (hv : v ≠ []) : TInv F ((v.dropLast, a) :: W) (T ++ [v]) := by
  obtain ⟨t1, t2, t3⟩ := x.told lt
  have h1 := x.wn _ (.head _)
  obtain ⟨d1, d2⟩ := (nd_one v h1.1).2.1 hv
  refine ⟨fun p hp => ?_, t1, t2, fun p hp t ht => ?_, fun u hu ht => ?_⟩
  · rcases List.mem_cons.mp hp with rfl | hp
    · exact ⟨d1, h1.2.1, alive_up hF h1.1 h1.2.2⟩
    · exact x.wn p (.tail _ hp)
  · rcases List.mem_cons.mp hp with rfl | hp
    · rcases List.mem_append.mp ht with ht | ht
      · exact Nat.lt_trans (x.sep _ (.head _) t ht) d2
      · rw [List.mem_singleton.mp ht]; exact d2
    · exact t3 p hp t ht
  · have hu1 : u ∉ T := fun h => ht (List.mem_append_left _ h)
    have hu2 : u ≠ v := fun h => ht (List.mem_append_right _ (List.mem_singleton.mpr h))
    rw [← x.sum u hu hu1, wt_cons, wt_cons]
    dsimp only
    rw [(nd_pair u hu v h1.1).2.2.1 hu2 hv]
theorem TInv.root {F W : List Itm} {T : List (List Str)} {a : Int} (x : TInv F (([], a) :: W) T) (lt : ∀ p ∈ W, idx [] < idx p.1) : W = [] ∧ TInv F [] (T ++ [[]]) := by
  obtain ⟨t1, t2, t3⟩ := x.told lt
  have hW : W = [] := by
    cases W with
    | nil => rfl
    | cons p W =>
      have h1 := lt p (.head _)
      have h2 := (nd_one p.1 (x.wn p (.tail _ (.head _))).1).1
      rw [show idx [] = 12 by decide +kernel] at h1
      lia
  subst hW
  refine ⟨rfl, ⟨fun p hp => (no_mem hp), t1, t2, fun p hp => (no_mem hp), fun u hu ht => ?_⟩⟩
  have hu1 : u ∉ T := fun h => ht (List.mem_append_left _ h)
  have hu2 : u ≠ [] := fun h => ht (List.mem_append_right _ (List.mem_singleton.mpr h))
  rw [← x.sum u hu hu1, wt_cons, if_neg]
  · rfl
  · intro e
    have e' : ([] : List Str).take u.length = u := by simpa [under] using e
    exact hu2 (by simpa using e'.symm)
theorem strict_ext : ∀ {a b : List (List Str)}, a.Pairwise (fun x y => idx x < idx y) → b.Pairwise (fun x y => idx x < idx y) → (∀ v, v ∈ a ↔ v ∈ b) → a = b
  | [], [], _, _, _ => rfl
  | [], y :: b, _, _, h => (no_mem ((h y).mpr (.head _)))
  | x :: a, [], _, _, h => (no_mem ((h x).mp (.head _)))
  | x :: a, y :: b, ha, hb, h => by
    obtain ⟨ha1, ha2⟩ := List.pairwise_cons.mp ha
    obtain ⟨hb1, hb2⟩ := List.pairwise_cons.mp hb
    have e : x = y := by
      rcases List.mem_cons.mp ((h x).mp (.head _)) with e | e
      · exact e
      · rcases List.mem_cons.mp ((h y).mpr (.head _)) with e2 | e2
        · exact e2.symm
        · exact absurd (hb1 x e) (Nat.not_lt.mpr (Nat.le_of_lt (ha1 y e2)))
    subst e
    rw [strict_ext ha2 hb2 fun v => ?_]
    constructor
    · intro hv
      rcases List.mem_cons.mp ((h v).mp (.tail _ hv)) with e | e
      · subst e; exact absurd (ha1 _ hv) (Nat.lt_irrefl _)
      · exact e
    · intro hv
      rcases List.mem_cons.mp ((h v).mpr (.tail _ hv)) with e | e
      · subst e; exact absurd (hb1 _ hv) (Nat.lt_irrefl _)
      · exact e
theorem wt_nn {F : List Itm} {v : List Str} (hF : ∀ p ∈ F, 0 < p.2) : 0 ≤ wt F v := by
  induction F with
  | nil => exact Int.le_refl _
  | cons p F ih =>
    have := ih fun q hq => hF q (.tail _ hq)
    have := hF p (.head _)
    rw [wt_cons]
    split <;> lia
theorem wt_pos {F : List Itm} {v : List Str} (hF : ∀ p ∈ F, 0 < p.2) (h : alive F v = true) : 0 < wt F v := by
  induction F with
  | nil => cases h
  | cons p F ih =>
    have h0 := wt_nn (v := v) fun q hq => hF q (.tail _ hq)
    have hp := hF p (.head _)
    rw [wt_cons]
    by_cases e : under v p.1 = true
    · rw [if_pos e]; (clear ih h e; omega)
    · rw [if_neg e]
      have : alive F v = true := by
        obtain ⟨q, hq, e2⟩ := List.any_eq_true.mp h
        rcases List.mem_cons.mp hq with rfl | hq
        · exact absurd e2 e
        · exact List.any_eq_true.mpr ⟨q, hq, e2⟩
      have := ih (fun q hq => hF q (.tail _ hq)) this
      (clear h0; lia)
theorem TInv.done {F : List Itm} {T : List (List Str)} (hF : ∀ p ∈ F, p.1 ∈ NDs ∧ 0 < p.2) (x : TInv F [] T) : T = NDs.filter (alive F) := by
  refine strict_ext x.srt (nd_sorted.filter _) fun v => ⟨fun hv => List.mem_filter.mpr (x.tn v hv), fun hv => ?_⟩
  obtain ⟨hn, ha⟩ := List.mem_filter.mp hv
  refine Decidable.byContradiction fun hT => ?_
  have h1 := x.sum v hn hT
  have h2 := wt_pos (fun p hp => (hF p hp).2) ha
  rw [← h1] at h2
  exact absurd h2 (Int.lt_irrefl 0)
theorem TInv.len {F W : List Itm} {T : List (List Str)} (x : TInv F W T) : T.length ≤ 13 := by
  have h : ∀ {l : List (List Str)} {k : Nat}, l.Pairwise (fun a b => idx a < idx b) → (∀ t ∈ l, k ≤ idx t ∧ idx t < 13) → l.length + k ≤ 13 ∨ l = [] := by
    intro l
    induction l with
    | nil => intro k _ _; exact .inr rfl
    | cons t l ih =>
      intro k hp hk
      obtain ⟨h1, h2⟩ := List.pairwise_cons.mp hp
      have hkt := hk t (.head _)
      rcases ih (k := idx t + 1) h2 (fun u hu => ⟨h1 u hu, (hk u (.tail _ hu)).2⟩) with e | e
      · exact .inl (by rw [List.length_cons]; lia)
      · subst e; exact .inl (by simp; lia)
  rcases h (k := 0) x.srt (fun t ht => ⟨Nat.zero_le _, (nd_one t (x.tn t ht).1).1⟩) with e | e
  · omega
  · rw [e]; exact Nat.zero_le _

section
variable {w : World} {mg mb : Str → Option Value} {mean : ExcName → Option Value} {dp un : Nat} {gd : Option (List Code)} {fr : List Env} {base : Heap} {s : Shared} {Q E : Value → Shared → Prop}
noncomputable def closesP (rows : List Row) (i : Nat) : Bool := decide (i + 1 = rows.length) || decide ((rows[i + 1]?).map (·.1) ≠ (rows[i]?).map (·.1))
noncomputable def textsP (rows : List Row) : List Str := rows.zipIdx.map fun p => p.1.2.1 ++ Str.ofString "=" ++ Str.ofString (toString p.1.2.2) ++ (if closesP rows p.2 then Str.ofString ";" else Str.ofString ",")
theorem textsP_at {rows : List Row} {i : Nat} {r : Row} (h : rows[i]? = some r) : (textsP rows)[i]? = some (r.2.1 ++ Str.ofString "=" ++ Str.ofString (toString r.2.2) ++ (if closesP rows i = true then Str.ofString ";" else Str.ofString ",")) := by
  unfold textsP
  rw [List.getElem?_map, List.getElem?_zipIdx, h]
  simp
theorem TupAt.its {h : Heap} {v : Value} {r : Row} (z : TupAt h v (rowD r)) : ∃ T t1 t2 t3, v = .ref T ∧ IsTup h T #[.int r.1 t1, .str r.2.1 t2, .int r.2.2 t3] := by
  obtain ⟨a, vs, n, e, g, p⟩ := z
  obtain ⟨t1, r1, rfl, p1⟩ := pvs_i p
  obtain ⟨t2, r2, rfl, p2⟩ := pvs_s p1
  obtain ⟨t3, r3, rfl, p3⟩ := pvs_i p2
  obtain rfl := pvs_nil p3
  exact ⟨a, _, _, _, e, ⟨_, g, rfl, _, rfl⟩⟩
theorem isTup_at {h h' : Heap} {T : Addr} {xs : Array Value} (z : IsTup h T xs) (k : ∀ b o, h.get? b = some o → h'.get? b = some o) : IsTup h' T xs := by
  obtain ⟨o, e, r⟩ := z
  exact ⟨o, k _ _ e, r⟩
noncomputable abbrev textJ (s : Shared) (D : Addr) (tl : Addr) (rows : List Row) (tvs : List Value) (kt : Nat) (i : Nat) (g' : Array GenState) (m : Str → Option Value) (news : List (Addr × Obj)) : Prop := g' = s.gens ∧ ∃ u yvs ky, m = KF [(Str.ofString "texts", .ref D), (Str.ofString "told", .ref tl)] u ∧ news = [(D, listOf yvs.toArray ky), (tl, listOf tvs.toArray kt)] ∧ StrsAre yvs ((textsP rows).take i)
theorem texts_spec
  {tl : Addr} {tvs : List Value} {kt : Nat} {rows : List Row}
  (X : (Mine.heapK w.params).In base) (T : Top topProg GL mean mg mb base) (hS : base.StaysIn s.heap)
  (hp : s.heap.get? tl = some (listOf tvs.toArray kt)) (hbp : base.get? tl = none) (hA : AllAt (TupAt s.heap) tvs (rows.map rowD))
  (hn : rows.length ≤ 50) (hr : ∀ r ∈ rows, r.2.1.length ≤ 20 ∧ 0 ≤ r.2.2 ∧ r.2.2 ≤ 1000)
  (hdp : dp < 700) (hu : un < 800)
  (ret : ∀ h' tk' D yvs ky, Keep [] s.heap h' → s.heap.get? D = none → h'.get? D = some (listOf yvs.toArray ky) → StrsAre yvs (textsP rows) → Q (.ref D) { s with heap := h', toks := tk' }) :
  wpAny (model PySem.Challenge.rw_ik0220_02.row.prog w) (amb dp un gd fr) (call (.ref 356) [.ref tl]) Q E s := by
  revert X; k_fill; intro X
  refine wpAny_call ?_
  k_dflt (refine' enterF [(Str.ofString "told", .ref tl)] [(tl, listOf tvs.toArray kt)] ?kX ?kT hS ?kD ?kho ?khcd ?kroom ?kb ?kl ?kr ?_ ?c1 ?c2 ?c3 ?c4; (
  (case kX => assumption); (case kT => assumption); (case kho => k_is); (case khcd => k_is); (case kb => first | exact BindsTo.of_eq rfl | exact binds_K (by k_in) rfl (by k_is) rfl rfl rfl);
  (case kl => exact locs rfl); (case kr => exact rfl); (case c1 => exact rfl); (case c2 => exact rfl); (case c3 => exact rfl); (case c4 => first | decide | exact fun _ => rfl); (case kroom => first | exact rm0 hdp rfl | (simp only [recursionLimit]; omega))); (case kD => exact fun q hq => by rw [List.mem_singleton.mp hq]; exact ⟨hp, hbp⟩))
  intro g L h1 fr' tk F N X1 T1 KP LTs
  refine (let aA := _; let eN := _; let qk := _; let ek := _; (?_ : wpAny _ aA (execs _ eN) qk ek _))
  have hAg : AllAt (TupAt g) tvs (rows.map rowD) := hA.mono fun v d z => z.kept KP fun b hb o ho => by
    simp at hb; subst hb; rw [hp] at ho; cases ho; simp
  have hvl : tvs.length = rows.length := by simpa using hA.length
  (repeat' (first | (fail_if_success with_reducible refine Nf.go (by constructor) ?_); (fail_if_success fail_if_success with_reducible refine Fd.go (by constructor) ?_; k_fold); refine (let qk := _; let ek := _; (?_ : wpAny _ _ _ qk ek _)) | (fail_if_success fail_if_success k_unfold); (first | with_reducible refine (?_ : wpAny _ _ _ _ _ _) | k_unfold); (try dsimp only); try clear qk ek | (fail_if_success with_reducible refine Stop.go (by constructor) ?_); first | walk1 | dsimp only; walk1))
  rename_i D _ lD h2 F2 N2
  refine for_R g L 0 rows.length [(D, listOf #[] 0), (tl, listOf tvs.toArray kt)] (textJ s D tl rows tvs kt) rfl (by (clear hdp hu lD; lia)) ?_ ?_ ?_ ?_
  · (repeat' (first | (fail_if_success with_reducible refine Nf.go (by constructor) ?_); (fail_if_success fail_if_success with_reducible refine Fd.go (by constructor) ?_; k_fold); refine (let qk := _; let ek := _; (?_ : wpAny _ _ _ qk ek _)) | (fail_if_success fail_if_success k_unfold); (first | with_reducible refine (?_ : wpAny _ _ _ _ _ _) | k_unfold); (try dsimp only); try clear qk ek | (fail_if_success with_reducible refine Stop.go (by constructor) ?_); first | walk1 | dsimp only; walk1))
    refine len_li (N2 _ (.tail _ (.head _))).1 (by (clear hdp hu lD; omega)) fun t5 tk5 => ?_
    (repeat' (first | (fail_if_success with_reducible refine Nf.go (by constructor) ?_); (fail_if_success fail_if_success with_reducible refine Fd.go (by constructor) ?_; k_fold); refine (let qk := _; let ek := _; (?_ : wpAny _ _ _ qk ek _)) | (fail_if_success fail_if_success k_unfold); (first | with_reducible refine (?_ : wpAny _ _ _ _ _ _) | k_unfold); (try dsimp only); try clear qk ek | (fail_if_success with_reducible refine Stop.go (by constructor) ?_); first | walk1 | dsimp only; walk1))
    rename_i hq tq u1 u2 u3 hR FR NR _
    exact RGo.mk hR rfl (by rw [hvl, Nat.zero_add]) (toKF [(Str.ofString "texts", .ref D), (Str.ofString "told", .ref tl)] FR ⟨rfl, rfl, trivial⟩) NR ⟨rfl, _, [], 0, rfl, rfl, .nil⟩
  · rintro i g' m news ⟨-, u, yvs, ky, -, rfl, -⟩ p hp
    simp only [List.mem_cons, List.not_mem_nil, or_false] at hp
    rcases hp with rfl | rfl <;> simp
  · rintro i ti h' g' tk9 m news I oI hi ⟨rfl, u, yvs, ky, rfl, rfl, hy⟩ F7 N7 lI
    clear F2 N2
    have hri := hr rows[i] (List.getElem_mem hi)
    obtain ⟨v, hv, tv⟩ := hAg.get (i := i) (by simpa using hi)
    obtain ⟨T0, a1, a2, a3, rfl, hT0⟩ := TupAt.its (r := rows[i]) (by simpa using tv)
    have hy' := hy.length
    rw [List.length_take] at hy'
    have yl : yvs.length ≤ 50 := by (clear hdp hu lD hri; lia)
    have o1 : @LT.lt Nat _ D I := lI _ (.head _)
    have o2 : @LT.lt Nat _ tl I := lI _ (.tail _ (.head _))
    have o3 : @LT.lt Nat _ tl D := lD
    repeat' (first | (k_unfold; (try dsimp only)) | ((with_reducible show wpAny _ _ (storeName _ _ _) _ _ _); (try dsimp only); walk1) | ((fail_if_success (with_reducible show wpAny _ _ (exec (Stmt.Assign _ _ _) _) _ _ _)); ((fail_if_success with_reducible refine Stop.go (by constructor) ?_); first | walk1 | dsimp only; walk1)))
    rename Heap => h8; rename Fr _ _ _ _ => F8; rename News _ _ _ _ => N8
    try dsimp only at N8
    ((fail_if_success (fail_if_success k_fold)); refine (let qk := _; let ek := _; (?_ : wpAny _ _ _ qk ek _)))
    have key : ∀ (b : Bool) (h9 : Heap) (u9 : Str → Option Value) (tk9 : Nat), b = closesP rows i → Fr g L h9 (KF [(Str.ofString "closes", .bool b), (Str.ofString "k", .int ((0 + i : Nat) : Int) ti), (Str.ofString "texts", .ref D), (Str.ofString "told", .ref tl)] u9) → News g L h9 [(I, oI), (D, listOf yvs.toArray ky), (tl, listOf tvs.toArray kt)] → qk .next { s with heap := h9, toks := tk9 } := by
      intro b h9 u9 tk9 hb F9 N9
      (repeat' (first | (fail_if_success with_reducible refine Nf.go (by constructor) ?_); (fail_if_success fail_if_success with_reducible refine Fd.go (by constructor) ?_; k_fold); refine (let qk := _; let ek := _; (?_ : wpAny _ _ _ qk ek _)) | (fail_if_success fail_if_success k_unfold); (first | with_reducible refine (?_ : wpAny _ _ _ _ _ _) | k_unfold); (try dsimp only); try clear qk ek | (fail_if_success with_reducible refine Stop.go (by constructor) ?_); first | walk1 | dsimp only; walk1))
      refine sub_list (v := .ref T0) (N9 _ (.tail _ (.tail _ (.head _)))).1 (Int.natCast_nonneg _) (by (clear hdp hu lD hri hy' yl o1 o2 o3 hb; lia)) (by rw [Int.toNat_natCast, Nat.zero_add]; exact hv) ?_
      (repeat' (first | (fail_if_success with_reducible refine Nf.go (by constructor) ?_); (fail_if_success fail_if_success with_reducible refine Fd.go (by constructor) ?_; k_fold); refine (let qk := _; let ek := _; (?_ : wpAny _ _ _ qk ek _)) | (fail_if_success fail_if_success k_unfold); (first | with_reducible refine (?_ : wpAny _ _ _ _ _ _) | k_unfold); (try dsimp only); try clear qk ek | (fail_if_success with_reducible refine Stop.go (by constructor) ?_); first | walk1 | dsimp only; walk1))
      refine sub_tup (j := 1) (x := .str rows[i].2.1 a2) (isTup_at hT0 F9.keep) (by decide) (by decide) rfl rfl ?_
      (repeat' (first | (fail_if_success with_reducible refine Nf.go (by constructor) ?_); (fail_if_success fail_if_success with_reducible refine Fd.go (by constructor) ?_; k_fold); refine (let qk := _; let ek := _; (?_ : wpAny _ _ _ qk ek _)) | (fail_if_success fail_if_success k_unfold); (first | with_reducible refine (?_ : wpAny _ _ _ _ _ _) | k_unfold); (try dsimp only); try clear qk ek | (fail_if_success with_reducible refine Stop.go (by constructor) ?_); first | walk1 | dsimp only; walk1))
      refine sub_list (v := .ref T0) (N9 _ (.tail _ (.tail _ (.head _)))).1 (Int.natCast_nonneg _) (by (clear hdp hu lD hri hy' yl o1 o2 o3 hb; omega)) (by rw [Int.toNat_natCast, Nat.zero_add]; exact hv) ?_
      (repeat' (first | (fail_if_success with_reducible refine Nf.go (by constructor) ?_); (fail_if_success fail_if_success with_reducible refine Fd.go (by constructor) ?_; k_fold); refine (let qk := _; let ek := _; (?_ : wpAny _ _ _ qk ek _)) | (fail_if_success fail_if_success k_unfold); (first | with_reducible refine (?_ : wpAny _ _ _ _ _ _) | k_unfold); (try dsimp only); try clear qk ek | (fail_if_success with_reducible refine Stop.go (by constructor) ?_); first | walk1 | dsimp only; walk1))
      refine sub_tup (j := 2) (x := .int rows[i].2.2 a3) (isTup_at hT0 F9.keep) (by decide) (by decide) rfl rfl ?_
      (repeat' (first | (fail_if_success with_reducible refine Nf.go (by constructor) ?_); (fail_if_success fail_if_success with_reducible refine Fd.go (by constructor) ?_; k_fold); refine (let qk := _; let ek := _; (?_ : wpAny _ _ _ qk ek _)) | (fail_if_success fail_if_success k_unfold); (first | with_reducible refine (?_ : wpAny _ _ _ _ _ _) | k_unfold); (try dsimp only); try clear qk ek | (fail_if_success with_reducible refine Stop.go (by constructor) ?_); first | walk1 | dsimp only; walk1))
      all_goals
        rename_i eb _ _ _
        have ht := textsP_at (List.getElem?_eq_getElem hi)
        rw [← hb, eb] at ht
        refine append_K F9 N9 (by k_upd) (fun h10 F10 N10 => ?_) (by rw [List.size_toArray, sizeLine_eq]; exact Nat.le_trans yl (by decide))
        clear F9 N9
        (repeat' (first | (fail_if_success with_reducible refine Nf.go (by constructor) ?_); (fail_if_success fail_if_success with_reducible refine Fd.go (by constructor) ?_; k_fold); refine (let qk := _; let ek := _; (?_ : wpAny _ _ _ qk ek _)) | (fail_if_success fail_if_success k_unfold); (first | with_reducible refine (?_ : wpAny _ _ _ _ _ _) | k_unfold); (try dsimp only); try clear qk ek | (fail_if_success with_reducible refine Stop.go (by constructor) ?_); first | walk1 | dsimp only; walk1))
        exact LpP.next (news := [(D, listOf (yvs ++ [_]).toArray (ky + 1)), (tl, listOf tvs.toArray kt)]) (toKF [(Str.ofString "texts", .ref D), (Str.ofString "told", .ref tl)] F10 ⟨rfl, rfl, trivial⟩) (by simpa using N10) ⟨rfl, _, _, _, rfl, rfl, by rw [take_succ_at ht]; exact hy.snoc _ _⟩
    clear_value qk
    (repeat' (first | (fail_if_success with_reducible refine Nf.go (by constructor) ?_); (fail_if_success fail_if_success with_reducible refine Fd.go (by constructor) ?_; k_fold); refine (let qk := _; let ek := _; (?_ : wpAny _ _ _ qk ek _)) | (fail_if_success fail_if_success k_unfold); (first | with_reducible refine (?_ : wpAny _ _ _ _ _ _) | k_unfold); (try dsimp only); try clear qk ek | (fail_if_success with_reducible refine Stop.go (by constructor) ?_); first | walk1 | dsimp only; walk1))
    refine len_li (N8 _ (.tail _ (.tail _ (.head _)))).1 (by (clear hdp hu lD hri hy' yl o1 o2 o3; omega)) fun t6 tk6 => ?_
    (repeat' (first | (fail_if_success with_reducible refine Nf.go (by constructor) ?_); (fail_if_success fail_if_success with_reducible refine Fd.go (by constructor) ?_; k_fold); refine (let qk := _; let ek := _; (?_ : wpAny _ _ _ qk ek _)) | (fail_if_success fail_if_success k_unfold); (first | with_reducible refine (?_ : wpAny _ _ _ _ _ _) | k_unfold); (try dsimp only); try clear qk ek | (fail_if_success with_reducible refine Stop.go (by constructor) ?_); first | walk1 | dsimp only; walk1))
    · rename_i e0 h9 F9 N9
      refine key _ _ _ _ ?_ (toKF [(Str.ofString "closes", .bool _), (Str.ofString "k", .int ((0 + i : Nat) : Int) ti), (Str.ofString "texts", .ref D), (Str.ofString "told", .ref tl)] F9 ⟨rfl, rfl, rfl, rfl, trivial⟩) N9
      rw [beq_iff_eq.mpr e0]
      unfold closesP
      rw [decide_eq_true (show i + 1 = rows.length by (clear hn hdp hu lD hri hy' yl o1 o2 o3; lia)), Bool.true_or]
    · rename_i e0
      have hi2 : i + 1 < rows.length := by (clear hn hdp hu lD hri hy' yl o1 o2 o3; lia)
      obtain ⟨v2, hv2, tv2⟩ := hAg.get (i := i + 1) (by simpa using hi2)
      obtain ⟨T2, c1, c2, c3, rfl, hT2⟩ := TupAt.its (r := rows[i + 1]) (by simpa using tv2)
      refine sub_list (v := .ref T2) (N8 _ (.tail _ (.tail _ (.head _)))).1 (by (clear hn hdp hu lD hri hy' yl o1 o2 o3; lia)) (by (clear hdp hu lD hri hy' yl o1 o2 o3; omega)) (by rw [show (((0 + i : Nat) : Int) + 1).toNat = i + 1 by (clear hn hdp hu lD hri hy' yl o1 o2 o3; lia)]; exact hv2) ?_
      (repeat' (first | (fail_if_success with_reducible refine Nf.go (by constructor) ?_); (fail_if_success fail_if_success with_reducible refine Fd.go (by constructor) ?_; k_fold); refine (let qk := _; let ek := _; (?_ : wpAny _ _ _ qk ek _)) | (fail_if_success fail_if_success k_unfold); (first | with_reducible refine (?_ : wpAny _ _ _ _ _ _) | k_unfold); (try dsimp only); try clear qk ek | (fail_if_success with_reducible refine Stop.go (by constructor) ?_); first | walk1 | dsimp only; walk1))
      refine sub_tup (j := 0) (x := .int rows[i + 1].1 c1) (isTup_at hT2 F8.keep) (by decide) (by decide) rfl rfl ?_
      (repeat' (first | (fail_if_success with_reducible refine Nf.go (by constructor) ?_); (fail_if_success fail_if_success with_reducible refine Fd.go (by constructor) ?_; k_fold); refine (let qk := _; let ek := _; (?_ : wpAny _ _ _ qk ek _)) | (fail_if_success fail_if_success k_unfold); (first | with_reducible refine (?_ : wpAny _ _ _ _ _ _) | k_unfold); (try dsimp only); try clear qk ek | (fail_if_success with_reducible refine Stop.go (by constructor) ?_); first | walk1 | dsimp only; walk1))
      refine sub_list (v := .ref T0) (N8 _ (.tail _ (.tail _ (.head _)))).1 (Int.natCast_nonneg _) (by (clear hdp hu lD hri hy' yl o1 o2 o3; omega)) (by rw [Int.toNat_natCast, Nat.zero_add]; exact hv) ?_
      (repeat' (first | (fail_if_success with_reducible refine Nf.go (by constructor) ?_); (fail_if_success fail_if_success with_reducible refine Fd.go (by constructor) ?_; k_fold); refine (let qk := _; let ek := _; (?_ : wpAny _ _ _ qk ek _)) | (fail_if_success fail_if_success k_unfold); (first | with_reducible refine (?_ : wpAny _ _ _ _ _ _) | k_unfold); (try dsimp only); try clear qk ek | (fail_if_success with_reducible refine Stop.go (by constructor) ?_); first | walk1 | dsimp only; walk1))
      refine sub_tup (j := 0) (x := .int rows[i].1 a1) (isTup_at hT0 F8.keep) (by decide) (by decide) rfl rfl ?_
      (repeat' (first | (fail_if_success with_reducible refine Nf.go (by constructor) ?_); (fail_if_success fail_if_success with_reducible refine Fd.go (by constructor) ?_; k_fold); refine (let qk := _; let ek := _; (?_ : wpAny _ _ _ qk ek _)) | (fail_if_success fail_if_success k_unfold); (first | with_reducible refine (?_ : wpAny _ _ _ _ _ _) | k_unfold); (try dsimp only); try clear qk ek | (fail_if_success with_reducible refine Stop.go (by constructor) ?_); first | walk1 | dsimp only; walk1))
      rename Heap => h9; rename Fr _ _ _ _ => F9; rename News _ _ _ _ => N9
      refine key _ _ _ _ ?_ (toKF [(Str.ofString "closes", .bool _), (Str.ofString "k", .int ((0 + i : Nat) : Int) ti), (Str.ofString "texts", .ref D), (Str.ofString "told", .ref tl)] F9 ⟨rfl, rfl, rfl, rfl, trivial⟩) N9
      unfold closesP
      rw [decide_eq_false (show ¬ i + 1 = rows.length by omega), Bool.false_or, List.getElem?_eq_getElem hi2, List.getElem?_eq_getElem hi]
      by_cases e : rows[i + 1].1 = rows[i].1
      · simp [e]
      · simp [e]
  · rintro h' g' tk9 m news ⟨rfl, u, yvs, ky, rfl, rfl, hy⟩ F7 N7
    have htake : (textsP rows).take rows.length = textsP rows := List.take_of_length_le (by simp [textsP])
    rw [htake] at hy
    (repeat' (first | (fail_if_success with_reducible refine Nf.go (by constructor) ?_); (fail_if_success fail_if_success with_reducible refine Fd.go (by constructor) ?_; k_fold); refine (let qk := _; let ek := _; (?_ : wpAny _ _ _ qk ek _)) | (fail_if_success fail_if_success k_unfold); (first | with_reducible refine (?_ : wpAny _ _ _ _ _ _) | k_unfold); (try dsimp only); try clear qk ek | (fail_if_success with_reducible refine Stop.go (by constructor) ?_); first | walk1 | dsimp only; walk1))
    refine ret _ _ D yvs ky (fun b o hb e => ?_) (keep_none KP (N7 _ (.head _)).2.2 fun hm => ?_) (N7 _ (.head _)).1 hy
    · by_cases hbl' : b = tl
      · subst hbl'
        rw [hp] at e; cases e
        exact (N7 _ (.tail _ (.head _))).1
      · exact F7.keep b o (KP b o (by simp [hbl']) e)
    · rw [List.map_cons, List.map_nil, List.mem_singleton] at hm
      exact absurd hm (Nat.ne_of_gt lD)

end
section
variable {w : World} {mg mb : Str → Option Value} {mean : ExcName → Option Value} {dp un : Nat} {gd : Option (List Code)} {fr : List Env} {base : Heap} {s : Shared} {Q E : Value → Shared → Prop}
noncomputable abbrev itemD (p : Itm) : DD := rowD (itemR p)
noncomputable abbrev fileD (p : Itm) : DD := [.s (txt p.1), .i p.2]
theorem TupAt.two {h : Heap} {v : Value} {x : Str} {n : Int} (z : TupAt h v [.s x, .i n]) : ∃ T t1 t2, v = .ref T ∧ IsTup h T #[.str x t1, .int n t2] := by
  obtain ⟨a, vs, k, e, g, p⟩ := z
  obtain ⟨t1, r1, rfl, p1⟩ := pvs_s p
  obtain ⟨t2, r2, rfl, p2⟩ := pvs_i p1
  obtain rfl := pvs_nil p2
  exact ⟨a, _, _, e, ⟨_, g, rfl, _, rfl⟩⟩
theorem nd_depth : ∀ v ∈ NDs, ((Txt.split (txt v) (Str.ofString "/")).filter fun c => c != Str.ofString "").length = v.length := by decide +kernel
theorem nd_head : ∀ v ∈ NDs, v ≠ [] → splitH (txt v) = txt v.dropLast := by decide +kernel
theorem perm_itm {ds : List DD} {W : List Itm} (h : ds.Perm (W.map itemD)) : ∃ W' : List Itm, W'.Perm W ∧ ds = W'.map itemD := by
  have key : ∀ {l m : List DD}, l.Perm m → ∀ W : List Itm, m = W.map itemD → ∃ W' : List Itm, W'.Perm W ∧ l = W'.map itemD := by
    intro l m h
    induction h with
    | nil => intro W e; exact ⟨W, .refl _, e⟩
    | cons x _ ih =>
      intro W e
      cases W with
      | nil => cases e
      | cons p W =>
        rw [List.map_cons, List.cons.injEq] at e
        obtain ⟨W', h1, h2⟩ := ih W e.2
        exact ⟨p :: W', h1.cons p, by rw [List.map_cons, ← e.1, h2]⟩
    | swap x y l =>
      intro W e
      match W, e with
      | p :: q :: W, e =>
        rw [List.map_cons, List.map_cons, List.cons.injEq, List.cons.injEq] at e
        exact ⟨q :: p :: W, .swap _ _ _, by rw [List.map_cons, List.map_cons, ← e.1, ← e.2.1, ← e.2.2]⟩
    | trans _ _ ih1 ih2 =>
      intro W e
      obtain ⟨W2, h3, h4⟩ := ih2 W e
      obtain ⟨W1, h1, h2⟩ := ih1 W2 h4
      exact ⟨W1, h1.trans h3, h2⟩
  exact key h W rfl
noncomputable abbrev tolD (F : List Itm) (v : List Str) : DD := itemD (v, wt F v)
inductive WSt (g : Heap) (L : Addr) (s : Shared) (fl wa td : Addr) (fvs : List Value) (kf : Nat) (F : List Itm) (kn : List (Str × Value)) (W : List Itm) (T : List (List Str)) : Shared → Prop
  | mk {h : Heap} {tk : Nat} {u : Str → Option Value} {wvs tvs : List Value} {kw kt : Nat} {ex : List (Addr × Obj)} :
    Fr g L h (KF kn u) → News g L h ((td, listOf tvs.toArray kt) :: (wa, listOf wvs.toArray kw) :: (fl, listOf fvs.toArray kf) :: ex) → (∀ p ∈ ex, p.2.cls = .type "tuple") →
    (∀ h', (∀ b ob, g.get? b = some ob → h'.get? b = some ob) → (∀ p ∈ ex, h'.get? p.1 = some p.2) → AllAt (TupAt h') wvs (W.map itemD) ∧ AllAt (TupAt h') tvs (T.map (tolD F))) →
    HeapOk lexLt (W.map itemD) → WSt g L s fl wa td fvs kf F kn W T { s with heap := h, toks := tk }
theorem two_tail2 {g h : Heap} {L : Addr} {m : Str → Option Value} {vs ws : List Value} {ds es : List (List Pv)} (F : Fr g L h m) (z : AllAt (TupAt h) vs ds) (y : AllAt (TupAt h) ws es) :
    ∃ ex : List (Addr × Obj), (∀ h', (∀ b ob, g.get? b = some ob → h'.get? b = some ob) → (∀ p ∈ ex, h'.get? p.1 = some p.2) → AllAt (TupAt h') vs ds ∧ AllAt (TupAt h') ws es) ∧ News g L h ex ∧ ∀ p ∈ ex, p.2.cls = .type "tuple" := by
  obtain ⟨e1, h1, n1, c1⟩ := all_tail2 F z
  obtain ⟨e2, h2, n2, c2⟩ := all_tail2 F y
  exact ⟨e1 ++ e2, fun h' k x => ⟨h1 h' k fun p hp => x p (List.mem_append_left _ hp), h2 h' k fun p hp => x p (List.mem_append_right _ hp)⟩, Mine.News.app n1 n2, fun p hp => (List.mem_append.mp hp).elim (c1 p) (c2 p)⟩
theorem off_lst {g h : Heap} {L a : Addr} {xs : Array Value} {n : Nat} {news : List (Addr × Obj)} {p : Addr × Obj} (N : News g L h news) (hp : p ∈ news) (c : p.2.cls = .type "tuple") (e : h.get? a = some (listOf xs n)) : p.1 ≠ a := fun q => by
  have z := (N p hp).1
  rw [q, e] at z
  rw [← Option.some.inj z] at c
  simp at c
theorem itm_sh {W : List Itm} : ∀ d ∈ W.map itemD, d.map Pv.isI = [true, false, true] := fun d hd => by
  obtain ⟨p, -, rfl⟩ := List.mem_map.mp hd
  rfl
theorem itm_le {p q : Itm} (hp : p.1 ∈ NDs) (hq : q.1 ∈ NDs) (h : lexLt (itemD q) (itemD p) = false) : idx p.1 ≤ idx q.1 := by
  by_cases e : q.1 = p.1
  · rw [e]; exact Nat.le_refl _
  · have := item_lt (n := q.2) (m := p.2) hq hp e
    rw [h] at this
    exact Nat.le_of_not_lt (of_decide_eq_false this.symm)
noncomputable abbrev toldJ (s : Shared) (g : Heap) (wa : Addr) (F : List Itm) (i : Nat) (g' : Array GenState) (m : Str → Option Value) (news : List (Addr × Obj)) : Prop := g' = s.gens ∧ ∃ u wvs kw ds ex, m = KF [(Str.ofString "waiting", .ref wa)] u ∧ news = (wa, listOf wvs.toArray kw) :: ex ∧ (∀ p ∈ ex, p.2.cls = .type "tuple") ∧ (∀ h', (∀ b ob, g.get? b = some ob → h'.get? b = some ob) → (∀ p ∈ ex, h'.get? p.1 = some p.2) → AllAt (TupAt h') wvs ds) ∧ HeapOk lexLt ds ∧ ds.Perm ((F.take i).map itemD)
theorem told_spec
  {fl : Addr} {fvs : List Value} {kf : Nat} {F : List Itm}
  (X : (Mine.heapK w.params).In base) (T : Top topProg GL mean mg mb base) (hS : base.StaysIn s.heap)
  (hp : s.heap.get? fl = some (listOf fvs.toArray kf)) (hbp : base.get? fl = none) (hA : AllAt (TupAt s.heap) fvs (F.map fileD))
  (hF : ∀ p ∈ F, p.1 ∈ NDs ∧ 0 < p.2) (hn : F.length ≤ 20)
  (hdp : dp < 600) (hu : un < 700)
  (ret : ∀ h' tk' D tvs kt, Keep [] s.heap h' → s.heap.get? D = none → h'.get? D = some (listOf tvs.toArray kt) → AllAt (TupAt h') tvs ((toldRows F).map rowD) → Q (.ref D) { s with heap := h', toks := tk' }) :
  wpAny (model PySem.Challenge.rw_ik0220_02.row.prog w) (amb dp un gd fr) (call (.ref 344) [.ref fl]) Q E s := by
  revert X; k_fill; intro X
  refine wpAny_call ?_
  k_dflt (refine' enterF [(Str.ofString "files", .ref fl)] [(fl, listOf fvs.toArray kf)] ?kX ?kT hS ?kD ?kho ?khcd ?kroom ?kb ?kl ?kr ?_ ?c1 ?c2 ?c3 ?c4; (
  (case kX => assumption); (case kT => assumption); (case kho => k_is); (case khcd => k_is); (case kb => first | exact BindsTo.of_eq rfl | exact binds_K (by k_in) rfl (by k_is) rfl rfl rfl);
  (case kl => exact locs rfl); (case kr => exact rfl); (case c1 => exact rfl); (case c2 => exact rfl); (case c3 => exact rfl); (case c4 => first | decide | exact fun _ => rfl); (case kroom => first | exact rm0 hdp rfl | (simp only [recursionLimit]; omega))); (case kD => exact fun q hq => by rw [List.mem_singleton.mp hq]; exact ⟨hp, hbp⟩))
  intro g L h1 fr' tk F0 N X1 T1 KP LTs
  refine (let aA := _; let eN := _; let qk := _; let ek := _; (?_ : wpAny _ aA (execs _ eN) qk ek _))
  have hAg : AllAt (TupAt g) fvs (F.map fileD) := hA.mono fun v d z => z.kept KP fun b hb o ho => by
    simp at hb; subst hb; rw [hp] at ho; cases ho; simp
  have hvl : fvs.length = F.length := by simpa using hA.length
  have hrefs : ∀ v ∈ fvs, ∃ T, v = .ref T := fun v hv => by
    obtain ⟨i, hi, rfl⟩ := List.getElem_of_mem hv
    obtain ⟨v9, e9, t9⟩ := hAg.get (i := i) (by simpa [hvl] using hi)
    rw [List.getElem?_eq_getElem hi] at e9
    cases e9
    obtain ⟨a, _, _, e, -⟩ := t9
    exact ⟨a, e⟩
  (repeat' (first | (fail_if_success with_reducible refine Nf.go (by constructor) ?_); (fail_if_success fail_if_success with_reducible refine Fd.go (by constructor) ?_; k_fold); refine (let qk := _; let ek := _; (?_ : wpAny _ _ _ qk ek _)) | (fail_if_success fail_if_success k_unfold); (first | with_reducible refine (?_ : wpAny _ _ _ _ _ _) | k_unfold); (try dsimp only); try clear qk ek | (fail_if_success with_reducible refine Stop.go (by constructor) ?_); first | walk1 | dsimp only; walk1))
  rename_i wa _ lwa h2 F2 N2
  have o0 : @LT.lt Nat _ fl wa := lwa
  refine for_listT g L fl fvs kf (toldJ s g wa F) rfl (toKF [(Str.ofString "waiting", .ref wa)] F2 ⟨rfl, trivial⟩) (Mine.News.sub N2 (by ((try simp only [List.cons_append, List.nil_append]); repeat' (first | exact .head _ | refine .tail _ ?_ | exact List.forall_mem_nil _ | refine List.forall_mem_cons.mpr ⟨?_, ?_⟩ | assumption | intro _ _)))) ⟨rfl, _, [], 0, [], [], rfl, rfl, (fun _ h => no_mem h), (fun _ _ _ => .nil), HeapOk.nil, .nil⟩ ?_ hrefs ?_ ?_ ?_
  · rintro i g' m news ⟨-, u, wvs, kw, ds, ex, -, rfl, cx, -⟩ p hp
    rcases List.mem_cons.mp hp with rfl | hp
    · exact .inl (by simp)
    · exact .inl (by rw [cx p hp]; simp)
  · (repeat' (first | (fail_if_success with_reducible refine Nf.go (by constructor) ?_); (fail_if_success fail_if_success with_reducible refine Fd.go (by constructor) ?_; k_fold); refine (let qk := _; let ek := _; (?_ : wpAny _ _ _ qk ek _)) | (fail_if_success fail_if_success k_unfold); (first | with_reducible refine (?_ : wpAny _ _ _ _ _ _) | k_unfold); (try dsimp only); try clear qk ek | (fail_if_success with_reducible refine Stop.go (by constructor) ?_); first | walk1 | dsimp only; walk1))
    try exact ⟨rfl, rfl⟩
  · rintro i v h' g' tk9 m news oI hv ⟨rfl, u, wvs, kw, ds, ex, rfl, rfl, cx, hex, hO, hpm⟩ F7 N7 lI
    have hi : i < F.length := by rw [← hvl]; exact (List.getElem?_eq_some_iff.mp hv).1
    obtain ⟨v9, e9, t9⟩ := hAg.get (i := i) (by simpa using hi)
    rw [hv] at e9
    cases e9
    obtain ⟨T0, a1, a2, rfl, hT0⟩ := TupAt.two (x := txt F[i].1) (n := F[i].2) (by simpa using t9)
    have hFi := hF F[i] (List.getElem_mem hi)
    have hxl : (txt F[i].1).length ≤ 6 := (nd_one _ hFi.1).2.2.2.2.1
    clear F2 N2
    refine unpackN_ F7 N7 (isTup_at hT0 F7.keep) rfl rfl rfl fun h8 F8 N8 => ?_
    clear F7 N7
    (repeat' (first | (fail_if_success with_reducible refine Nf.go (by constructor) ?_); (fail_if_success fail_if_success with_reducible refine Fd.go (by constructor) ?_; k_fold); refine (let qk := _; let ek := _; (?_ : wpAny _ _ _ qk ek _)) | (fail_if_success fail_if_success k_unfold); (first | with_reducible refine (?_ : wpAny _ _ _ _ _ _) | k_unfold); (try dsimp only); try clear qk ek | (fail_if_success with_reducible refine Stop.go (by constructor) ?_); first | walk1 | dsimp only; walk1))
    rename Heap => h10; rename Fr _ _ _ _ => F10; rename News _ _ _ _ => N10
    refine PyProof.Rows.LCt.ListComp_T F10 (cl := []) (by with_unfolding_all rfl) (by decide) (by with_unfolding_all rfl) (by decide) (by with_unfolding_all rfl) ?_ (fun _ => by with_unfolding_all rfl)
    (repeat' (first | (fail_if_success with_reducible refine Nf.go (by constructor) ?_); (fail_if_success fail_if_success with_reducible refine Fd.go (by constructor) ?_; k_fold); refine (let qk := _; let ek := _; (?_ : wpAny _ _ _ qk ek _)) | (fail_if_success fail_if_success k_unfold); (first | with_reducible refine (?_ : wpAny _ _ _ _ _ _) | k_unfold); (try dsimp only); try clear qk ek | (fail_if_success with_reducible refine Stop.go (by constructor) ?_); first | walk1 | dsimp only; walk1))
    rename_i ls hS kS eL eS hB eI FS NS
    have hls := PyProof.Rows.len_le_of_split eL
    refine srcT_same (l := h10.objs.size) (vs := strValues ls) (k := 0) (fun j ys => StrsAre ys (((ls.map (·.1)).take j).filter (fun c => c != Str.ofString ""))) rfl FS NS .nil (by rw [show (strValues ls).length = ls.length from List.length_map _]; (clear hn hdp hu lwa o0; lia)) (.head _) (fun g9 => ?_) (fun g9 ys hys => ?_)
    · intro j v ys I oI C oC D m₂ h tk E' hj hv hC hx F9 N9 off ne hys
      obtain ⟨c, tc, rfl, hc⟩ := strValues_at (by simpa using hv)
      clear FS NS
      (repeat' (first | (fail_if_success with_reducible refine Nf.go (by constructor) ?_); (fail_if_success fail_if_success with_reducible refine Fd.go (by constructor) ?_; k_fold); refine (let qk := _; let ek := _; (?_ : wpAny _ _ _ qk ek _)) | (fail_if_success fail_if_success k_unfold); (first | with_reducible refine (?_ : wpAny _ _ _ _ _ _) | k_unfold); (try dsimp only); try clear qk ek | (fail_if_success with_reducible refine Stop.go (by constructor) ?_); first | walk1 | dsimp only; walk1))
      by_cases e : (c != Str.ofString "") = true
      · refine WhlIf.yes e ?_
        (repeat' (first | (fail_if_success with_reducible refine Nf.go (by constructor) ?_); (fail_if_success fail_if_success with_reducible refine Fd.go (by constructor) ?_; k_fold); refine (let qk := _; let ek := _; (?_ : wpAny _ _ _ qk ek _)) | (fail_if_success fail_if_success k_unfold); (first | with_reducible refine (?_ : wpAny _ _ _ _ _ _) | k_unfold); (try dsimp only); try clear qk ek | (fail_if_success with_reducible refine Stop.go (by constructor) ?_); first | walk1 | dsimp only; walk1))
        exact PyProof.Rows.LCg.CompEnd.intro F9 N9 _ (fun p hp => hp) off trivial ⟨rfl, by dsimp only; rw [take_succ_at hc, List.filter_append, List.filter_cons_of_pos (p := fun c => c != Str.ofString "") e]; exact hys.snoc _ _⟩
      · refine WhlIf.no (by simpa using e) ?_
        exact PyProof.Rows.LCg.CompEnd.intro F9 N9 _ (fun p hp => hp) off trivial ⟨rfl, by dsimp only; rw [take_succ_at hc, List.filter_append, List.filter_cons_of_neg (p := fun c => c != Str.ofString "") e, List.filter_nil, List.append_nil]; exact hys⟩
    · intro DN hN tN FN NN offN
      have hyl : ys.length = F[i].1.length := by
        have h1 := hys.length
        rw [show (strValues ls).toArray.size = (ls.map (·.1)).length by simp [strValues], List.take_length, eL, nd_depth _ hFi.1] at h1
        exact h1
      clear FS NS
      (repeat' (first | (fail_if_success with_reducible refine Nf.go (by constructor) ?_); (fail_if_success fail_if_success with_reducible refine Fd.go (by constructor) ?_; k_fold); refine (let qk := _; let ek := _; (?_ : wpAny _ _ _ qk ek _)) | (fail_if_success fail_if_success k_unfold); (first | with_reducible refine (?_ : wpAny _ _ _ _ _ _) | k_unfold); (try dsimp only); try clear qk ek | (fail_if_success with_reducible refine Stop.go (by constructor) ?_); first | walk1 | dsimp only; walk1))
      refine len_li (NN _ (.head _)).1 (by rw [hyl]; have := (nd_one _ hFi.1).2.2.2.1; (clear hn hdp hu lwa o0 hxl hls; lia)) fun t5 tk5 => ?_
      rw [hyl]
      (repeat' (first | (fail_if_success with_reducible refine Nf.go (by constructor) ?_); (fail_if_success fail_if_success with_reducible refine Fd.go (by constructor) ?_; k_fold); refine (let qk := _; let ek := _; (?_ : wpAny _ _ _ qk ek _)) | (fail_if_success fail_if_success k_unfold); (first | with_reducible refine (?_ : wpAny _ _ _ _ _ _) | k_unfold); (try dsimp only); try clear qk ek | (fail_if_success with_reducible refine Stop.go (by constructor) ?_); first | walk1 | dsimp only; walk1))
      rename_i TD h12 F12 N12 l12
      have o1 : @LT.lt Nat _ wa h2.objs.size := lI _ (.tail _ (.head _))
      have o2 : @LT.lt Nat _ fl h2.objs.size := lI _ (.head _)
      have A12 := hex h12 F12.keep fun p hp => (N12 p (.tail _ (.tail _ (.tail _ (.tail _ (.tail _ (.tail _ hp))))))).1
      have hsh : ∀ d ∈ ds, d.map Pv.isI = [true, false, true] := fun d hd => by
        obtain ⟨p, -, rfl⟩ := List.mem_map.mp (hpm.subset hd)
        rfl
      have hdl : ds.length ≤ 20 := by rw [hpm.length_eq, List.length_map, List.length_take]; (clear hdp hu lwa o0 hFi hxl hls hyl l12 o1 o2; lia)
      have zW := N12 _ (.tail _ (.tail _ (.tail _ (.tail _ (.tail _ (.head _))))))
      have zF := N12 _ (.tail _ (.tail _ (.tail _ (.tail _ (.head _)))))
      have zI := N12 _ (.tail _ (.tail _ (.tail _ (.head _))))
      refine heappush_spec (ds := ds) (sh := [true, false, true]) (x := itemD F[i]) X1 T1 F12.keep zW.1 zW.2.2 A12 ⟨TD, _, 0, rfl, (N12 _ (.head _)).1, .cons (.i _ _) (.cons (.s _ _) (.cons (.i _ _) .nil))⟩ hsh rfl hO (by (clear hdp hu lwa o0 hFi hxl hls hyl l12 o1 o2; lia)) (by omega) (by omega) fun vs13 ds13 n13 h13 tk13 kp13 e13 A13 O13 p13 => ?_
      have F13 := fr_kept F12 N12 kp13 (fun b hb => by rw [List.mem_singleton.mp hb]; exact ⟨_, .tail _ (.tail _ (.tail _ (.tail _ (.tail _ (.head _)))))⟩)
      obtain ⟨ex13, hex13, Nx13, cx13⟩ := all_tail2 F13 A13
      have eF := kp13 _ _ (off1 (show @Ne Nat fl wa by omega)) zF.1
      have eI := kp13 _ _ (off1 (show @Ne Nat h2.objs.size wa by omega)) zI.1
      have N13 := News.cons (News.cons (News.cons Nx13 e13 zW.2.2 zW.2.1) eF zF.2.2 zF.2.1) eI zI.2.2 zI.2.1
      clear F12 N12 zW zF zI
      (repeat' (first | (fail_if_success with_reducible refine Nf.go (by constructor) ?_); (fail_if_success fail_if_success with_reducible refine Fd.go (by constructor) ?_; k_fold); refine (let qk := _; let ek := _; (?_ : wpAny _ _ _ qk ek _)) | (fail_if_success fail_if_success k_unfold); (first | with_reducible refine (?_ : wpAny _ _ _ _ _ _) | k_unfold); (try dsimp only); try clear qk ek | (fail_if_success with_reducible refine Stop.go (by constructor) ?_); first | walk1 | dsimp only; walk1))
      refine LpP.next (news := (wa, listOf vs13.toArray n13) :: ex13) (toKF [(Str.ofString "waiting", .ref wa)] F13 ⟨rfl, trivial⟩) N13 ⟨rfl, _, vs13, n13, ds13, ex13, rfl, rfl, cx13, hex13, O13, p13.trans ?_⟩
      rw [take_succ_at (List.getElem?_eq_getElem hi), List.map_append]
      exact (hpm.cons _).trans (List.perm_append_comm (l₁ := [itemD F[i]]))
  · rintro h' g' tk9 m news ⟨rfl, u, wvs, kw, ds, ex, rfl, rfl, cx, hex, hO, hpm⟩ F7 N7
    rw [hvl, List.take_length] at hpm
    (repeat' (first | (fail_if_success with_reducible refine Nf.go (by constructor) ?_); (fail_if_success fail_if_success with_reducible refine Fd.go (by constructor) ?_; k_fold); refine (let qk := _; let ek := _; (?_ : wpAny _ _ _ qk ek _)) | (fail_if_success fail_if_success k_unfold); (first | with_reducible refine (?_ : wpAny _ _ _ _ _ _) | k_unfold); (try dsimp only); try clear qk ek | (fail_if_success with_reducible refine Stop.go (by constructor) ?_); first | walk1 | dsimp only; walk1))
    rename_i td h8 ltd h9 F9 N9
    obtain ⟨lt1, lt2, lt3⟩ := ltd
    have o3 : @LT.lt Nat _ fl td := lt1
    have o4 : @LT.lt Nat _ wa td := lt2
    obtain ⟨F', hF', rfl⟩ := perm_itm hpm
    have t0 : TInv F F' [] := (TInv.start hF).perm hF'
    refine while_D (fun n s' => ∃ W T, TInv F W T ∧ n + T.length = 13 ∧ W.length ≤ 20 ∧ WSt g L s fl wa td fvs kf F [(Str.ofString "waiting", .ref wa), (Str.ofString "told", .ref td)] W T s') (fun s' => ∃ T, TInv F [] T ∧ WSt g L s fl wa td fvs kf F [(Str.ofString "waiting", .ref wa), (Str.ofString "told", .ref td)] [] T s') 13 ?_ ?_ ?_
    · refine ⟨F', [], t0, rfl, by rw [hF'.length_eq]; exact hn, WSt.mk (toKF [(Str.ofString "waiting", .ref wa), (Str.ofString "told", .ref td)] F9 ⟨rfl, rfl, trivial⟩) (Mine.News.sub N9 (by ((try simp only [List.cons_append, List.nil_append]); repeat' (first | exact .head _ | refine .tail _ ?_ | exact List.forall_mem_nil _ | refine List.forall_mem_cons.mpr ⟨?_, ?_⟩ | assumption | intro _ _)))) cx (fun h' k x => ⟨hex h' k x, .nil⟩) hO⟩
    · rintro n s' ⟨W, T, tin, hnT, hWl, @⟨h, tk, u, wvs, tvs, kw, kt, ex2, F10, N10, cx2, hex2, hO2⟩⟩
      clear F9 N9
      (repeat' (first | (fail_if_success with_reducible refine Nf.go (by constructor) ?_); (fail_if_success fail_if_success with_reducible refine Fd.go (by constructor) ?_; k_fold); refine (let qk := _; let ek := _; (?_ : wpAny _ _ _ qk ek _)) | (fail_if_success fail_if_success k_unfold); (first | with_reducible refine (?_ : wpAny _ _ _ _ _ _) | k_unfold); (try dsimp only); try clear qk ek | (fail_if_success with_reducible refine Stop.go (by constructor) ?_); first | walk1 | dsimp only; walk1))
      rename_i nl h11 F11 N11 l11
      have A11 := hex2 h11 F11.keep fun p hp => (N11 p (.tail _ (.tail _ (.tail _ (.tail _ hp))))).1
      have hwl : wvs.length = W.length := by simpa using A11.1.length
      have hcl : un + 3 < cLine := by simp only [cLine]; omega
      by_cases hW : W = []
      · subst hW
        have hw0 : wvs = [] := List.length_eq_zero_iff.mp hwl
        subst hw0
        refine ne_nil0 (N11 _ (.tail _ (.tail _ (.head _)))).1 (N11 _ (.head _)).1 hcl ?_
        (repeat' (first | (fail_if_success with_reducible refine Nf.go (by constructor) ?_); (fail_if_success fail_if_success with_reducible refine Fd.go (by constructor) ?_; k_fold); refine (let qk := _; let ek := _; (?_ : wpAny _ _ _ qk ek _)) | (fail_if_success fail_if_success k_unfold); (first | with_reducible refine (?_ : wpAny _ _ _ _ _ _) | k_unfold); (try dsimp only); try clear qk ek | (fail_if_success with_reducible refine Stop.go (by constructor) ?_); first | walk1 | dsimp only; walk1))
        exact WhlIf.no rfl ⟨T, tin, WSt.mk F11 (fun p hp => N11 p (.tail _ hp)) cx2 hex2 hO2⟩
      · obtain ⟨v0, wvs0, rfl⟩ : ∃ v0 wvs0, wvs = v0 :: wvs0 := by
          cases wvs with
          | nil => exact absurd (List.length_eq_zero_iff.mp hwl.symm) hW
          | cons a b => exact ⟨a, b, rfl⟩
        refine ne_nil1 (N11 _ (.tail _ (.tail _ (.head _)))).1 (N11 _ (.head _)).1 hcl ?_
        (repeat' (first | (fail_if_success with_reducible refine Nf.go (by constructor) ?_); (fail_if_success fail_if_success with_reducible refine Fd.go (by constructor) ?_; k_fold); refine (let qk := _; let ek := _; (?_ : wpAny _ _ _ qk ek _)) | (fail_if_success fail_if_success k_unfold); (first | with_reducible refine (?_ : wpAny _ _ _ _ _ _) | k_unfold); (try dsimp only); try clear qk ek | (fail_if_success with_reducible refine Stop.go (by constructor) ?_); first | walk1 | dsimp only; walk1))
        refine WhlIf.yes rfl ?_
        replace N11 : News g L h11 ((td, listOf tvs.toArray kt) :: (wa, listOf (v0 :: wvs0).toArray kw) :: (fl, listOf fvs.toArray kf) :: ex2) := fun p hp => N11 p (.tail _ hp)
        (repeat' (first | (fail_if_success with_reducible refine Nf.go (by constructor) ?_); (fail_if_success fail_if_success with_reducible refine Fd.go (by constructor) ?_; k_fold); refine (let qk := _; let ek := _; (?_ : wpAny _ _ _ qk ek _)) | (fail_if_success fail_if_success k_unfold); (first | with_reducible refine (?_ : wpAny _ _ _ _ _ _) | k_unfold); (try dsimp only); try clear qk ek | (fail_if_success with_reducible refine Stop.go (by constructor) ?_); first | walk1 | dsimp only; walk1))
        have zW := N11 _ (.tail _ (.head _))
        refine heappop_spec (sh := [true, false, true]) X1 T1 F11.keep zW.1 zW.2.2 A11.1 itm_sh hO2 (by rw [List.length_map]; exact List.length_pos_iff.mpr hW) (by rw [List.length_map]; (clear hn hdp hu lwa o0 lt1 lt2 o3 o4 hnT l11 hcl; lia)) (by omega) (by omega) fun v12 x12 vs12 ds12 n12 h12 tk12 kp12 e12 tv12 A12 O12 p12 m12 => ?_
        obtain ⟨W1, hW1, eW1⟩ := perm_itm p12
        obtain ⟨p, W', rfl⟩ : ∃ p W', W1 = p :: W' := by
          cases W1 with
          | nil => cases eW1
          | cons a b => exact ⟨a, b, rfl⟩
        rw [List.map_cons, List.cons.injEq] at eW1
        obtain ⟨rfl, rfl⟩ := eW1
        have tin1 := tin.perm hW1
        have hpN := (tin1.wn p (.head _)).1
        have hmin : ∀ q ∈ W', idx p.1 ≤ idx q.1 := fun q hq => itm_le hpN (tin1.wn q (.tail _ hq)).1 (m12 _ (List.mem_map_of_mem (hW1.subset (.tail _ hq))))
        have hWl1 : W'.length + 1 ≤ 20 := by rw [← hW1.length_eq] at hWl; exact hWl
        have F12 := fr_kept F11 N11 kp12 (fun b hb => by rw [List.mem_singleton.mp hb]; exact ⟨_, .tail _ (.head _)⟩)
        have S12 : AllAt (TupAt h12) tvs (T.map (tolD F)) := A11.2.mono fun _ _ z => tup_kept z kp12 N11 (fun b hb => by rw [List.mem_singleton.mp hb]; exact ⟨_, .tail _ (.head _), by simp⟩)
        obtain ⟨ex12, hex12, Nx12, cx12⟩ := two_tail2 F12 A12 S12
        have zT := N11 _ (.head _)
        have zF := N11 _ (.tail _ (.tail _ (.head _)))
        have eT := kp12 _ _ (off1 (show @Ne Nat td wa by omega)) zT.1
        have eF := kp12 _ _ (off1 (show @Ne Nat fl wa by omega)) zF.1
        have N12 := News.cons (News.cons (News.cons Nx12 eF zF.2.2 zF.2.1) e12 zW.2.2 zW.2.1) eT zT.2.2 zT.2.1
        obtain ⟨v, sz⟩ := p
        obtain ⟨TT, x1, x2, x3, rfl, hTT⟩ := TupAt.its (r := itemR (v, sz)) tv12
        dsimp only [itemR] at hTT
        clear F11 N11 zW zT zF eT eF A11 A12 S12 tv12 Nx12 hex2 cx2 hO2 e12
        refine unpackN_ F12 N12 hTT rfl rfl rfl fun h13 F13 N13 => ?_
        clear F12 N12
        (repeat' (first | (fail_if_success with_reducible refine Nf.go (by constructor) ?_); (fail_if_success fail_if_success with_reducible refine Fd.go (by constructor) ?_; k_fold); refine (let qk := _; let ek := _; (?_ : wpAny _ _ _ qk ek _)) | (fail_if_success fail_if_success k_unfold); (first | with_reducible refine (?_ : wpAny _ _ _ _ _ _) | k_unfold); (try dsimp only); try clear qk ek | (fail_if_success with_reducible refine Stop.go (by constructor) ?_); first | walk1 | dsimp only; walk1))
        rename Heap => h14; rename Fr _ _ _ _ => F14; rename News _ _ _ _ => N14
        refine while_D (fun n2 s' => ∃ W2 z tz, TInv F ((v, z) :: W2) T ∧ n2 = W2.length ∧ (∀ q ∈ W2, idx v ≤ idx q.1) ∧ W2.length + 1 ≤ 20 ∧ WSt g L s fl wa td fvs kf F [(Str.ofString "waiting", .ref wa), (Str.ofString "told", .ref td), (Str.ofString "height", .int (-(v.length : Int)) x1), (Str.ofString "spot", .str (txt v) x2), (Str.ofString "size", .int z tz)] W2 T s') (fun s' => ∃ W2 z tz, TInv F ((v, z) :: W2) T ∧ (∀ q ∈ W2, idx v < idx q.1) ∧ W2.length + 1 ≤ 20 ∧ WSt g L s fl wa td fvs kf F [(Str.ofString "waiting", .ref wa), (Str.ofString "told", .ref td), (Str.ofString "height", .int (-(v.length : Int)) x1), (Str.ofString "spot", .str (txt v) x2), (Str.ofString "size", .int z tz)] W2 T s') W'.length ?_ ?_ ?_
        · exact ⟨W', sz, x3, tin1, rfl, hmin, hWl1, WSt.mk (toKF [(Str.ofString "waiting", .ref wa), (Str.ofString "told", .ref td), (Str.ofString "height", .int (-(v.length : Int)) x1), (Str.ofString "spot", .str (txt v) x2), (Str.ofString "size", .int sz x3)] F14 ⟨rfl, rfl, rfl, rfl, rfl, trivial⟩) N14 cx12 hex12 O12⟩
        · rintro n2 s' ⟨W2, z, tz, tin2, rfl, hmin2, hWl2, @⟨h, tk, u, wvs, tvs, kw, kt, ex2, F20, N20, cx20, hex20, hO20⟩⟩
          clear F14 N14
          (repeat' (first | (fail_if_success with_reducible refine Nf.go (by constructor) ?_); (fail_if_success fail_if_success with_reducible refine Fd.go (by constructor) ?_; k_fold); refine (let qk := _; let ek := _; (?_ : wpAny _ _ _ qk ek _)) | (fail_if_success fail_if_success k_unfold); (first | with_reducible refine (?_ : wpAny _ _ _ _ _ _) | k_unfold); (try dsimp only); try clear qk ek | (fail_if_success with_reducible refine Stop.go (by constructor) ?_); first | walk1 | dsimp only; walk1))
          rename_i nl h21 F21 N21 l21
          have A21 := hex20 h21 F21.keep fun p hp => (N21 p (.tail _ (.tail _ (.tail _ (.tail _ hp))))).1
          have hwl2 : wvs.length = W2.length := by simpa using A21.1.length
          cases W2 with
          | nil =>
            have hw0 : wvs = [] := List.length_eq_zero_iff.mp hwl2
            subst hw0
            refine ne_nil0 (N21 _ (.tail _ (.tail _ (.head _)))).1 (N21 _ (.head _)).1 hcl ?_
            (repeat' (first | (fail_if_success with_reducible refine Nf.go (by constructor) ?_); (fail_if_success fail_if_success with_reducible refine Fd.go (by constructor) ?_; k_fold); refine (let qk := _; let ek := _; (?_ : wpAny _ _ _ qk ek _)) | (fail_if_success fail_if_success k_unfold); (first | with_reducible refine (?_ : wpAny _ _ _ _ _ _) | k_unfold); (try dsimp only); try clear qk ek | (fail_if_success with_reducible refine Stop.go (by constructor) ?_); first | walk1 | dsimp only; walk1))
            exact WhlIf.no rfl ⟨[], z, tz, tin2, (fun _ h => no_mem h), hWl2, WSt.mk F21 (fun p hp => N21 p (.tail _ hp)) cx20 hex20 hO20⟩
          | cons q0 W2r =>
            obtain ⟨v0, wvs0, rfl⟩ : ∃ v0 wvs0, wvs = v0 :: wvs0 := by
              cases wvs with
              | nil => cases hwl2
              | cons a b => exact ⟨a, b, rfl⟩
            refine ne_nil1 (N21 _ (.tail _ (.tail _ (.head _)))).1 (N21 _ (.head _)).1 hcl ?_
            (repeat' (first | (fail_if_success with_reducible refine Nf.go (by constructor) ?_); (fail_if_success fail_if_success with_reducible refine Fd.go (by constructor) ?_; k_fold); refine (let qk := _; let ek := _; (?_ : wpAny _ _ _ qk ek _)) | (fail_if_success fail_if_success k_unfold); (first | with_reducible refine (?_ : wpAny _ _ _ _ _ _) | k_unfold); (try dsimp only); try clear qk ek | (fail_if_success with_reducible refine Stop.go (by constructor) ?_); first | walk1 | dsimp only; walk1))
            have N22 : News g L h21 ((td, listOf tvs.toArray kt) :: (wa, listOf (v0 :: wvs0).toArray kw) :: (fl, listOf fvs.toArray kf) :: ex2) := fun p hp => N21 p (.tail _ hp)
            obtain ⟨v9, e9, tv9⟩ := A21.1.get (i := 0) (by simp)
            cases e9
            obtain ⟨TR, r1, r2, r3, rfl, hTR⟩ := TupAt.its (r := itemR q0) (by simpa using tv9)
            dsimp only [itemR] at hTR
            refine sub_list (v := .ref TR) (N22 _ (.tail _ (.head _))).1 (by decide) (by decide) rfl ?_
            (repeat' (first | (fail_if_success with_reducible refine Nf.go (by constructor) ?_); (fail_if_success fail_if_success with_reducible refine Fd.go (by constructor) ?_; k_fold); refine (let qk := _; let ek := _; (?_ : wpAny _ _ _ qk ek _)) | (fail_if_success fail_if_success k_unfold); (first | with_reducible refine (?_ : wpAny _ _ _ _ _ _) | k_unfold); (try dsimp only); try clear qk ek | (fail_if_success with_reducible refine Stop.go (by constructor) ?_); first | walk1 | dsimp only; walk1))
            refine sub_tup (j := 1) (x := .str (txt q0.1) r2) hTR (by decide) (by decide) rfl rfl ?_
            have hvN : v ∈ NDs := (tin2.wn _ (.head _)).1
            have hqN : q0.1 ∈ NDs := (tin2.wn _ (.tail _ (.head _))).1
            have hq0 := hmin2 q0 (.head _)
            clear N21
            (repeat' (first | (fail_if_success with_reducible refine Nf.go (by constructor) ?_); (fail_if_success fail_if_success with_reducible refine Fd.go (by constructor) ?_; k_fold); refine (let qk := _; let ek := _; (?_ : wpAny _ _ _ qk ek _)) | (fail_if_success fail_if_success k_unfold); (first | with_reducible refine (?_ : wpAny _ _ _ _ _ _) | k_unfold); (try dsimp only); try clear qk ek | (fail_if_success with_reducible refine Stop.go (by constructor) ?_); first | walk1 | dsimp only; walk1))
            · rename_i e1
              refine WhlIf.yes rfl ?_
              have eq0 : q0.1 = v := (nd_pair _ hqN _ hvN).2.1 (eq_of_beq e1)
              (repeat' (first | (fail_if_success with_reducible refine Nf.go (by constructor) ?_); (fail_if_success fail_if_success with_reducible refine Fd.go (by constructor) ?_; k_fold); refine (let qk := _; let ek := _; (?_ : wpAny _ _ _ qk ek _)) | (fail_if_success fail_if_success k_unfold); (first | with_reducible refine (?_ : wpAny _ _ _ _ _ _) | k_unfold); (try dsimp only); try clear qk ek | (fail_if_success with_reducible refine Stop.go (by constructor) ?_); first | walk1 | dsimp only; walk1))
              have zW := N22 _ (.tail _ (.head _))
              refine heappop_spec (sh := [true, false, true]) X1 T1 F21.keep zW.1 zW.2.2 A21.1 itm_sh hO20 (by simp) (by rw [List.length_map]; (clear hn hdp hu lwa o0 lt1 lt2 o3 o4 hnT hWl l11 hcl hwl hWl1 l21 hq0; lia)) (by omega) (by omega) fun v22 x22 vs22 ds22 n22 h22 tk22 kp22 e22 tv22 A22 O22 p22 m22 => ?_
              obtain ⟨W3, hW3, eW3⟩ := perm_itm p22
              obtain ⟨p3, W4, rfl⟩ : ∃ p W', W3 = p :: W' := by
                cases W3 with
                | nil => cases eW3
                | cons a b => exact ⟨a, b, rfl⟩
              rw [List.map_cons, List.cons.injEq] at eW3
              obtain ⟨rfl, rfl⟩ := eW3
              have tin3 := tin2.perm (hW3.cons (v, z))
              have hp3 : p3.1 ∈ NDs := (tin3.wn _ (.tail _ (.head _))).1
              have ev : v = p3.1 := (nd_pair _ hvN _ hp3).2.2.2.2.1 (Nat.le_antisymm (hmin2 _ (hW3.subset (.head _))) (by rw [← eq0]; exact itm_le hp3 hqN (m22 _ (List.mem_map_of_mem (.head _)))))
              have hl4 : W4.length + 1 = W2r.length + 1 := hW3.length_eq
              have F22 := fr_kept F21 N22 kp22 (fun b hb => by rw [List.mem_singleton.mp hb]; exact ⟨_, .tail _ (.head _)⟩)
              have S22 : AllAt (TupAt h22) tvs (T.map (tolD F)) := A21.2.mono fun _ _ z => tup_kept z kp22 N22 (fun b hb => by rw [List.mem_singleton.mp hb]; exact ⟨_, .tail _ (.head _), by simp⟩)
              obtain ⟨ex22, hex22, Nx22, cx22⟩ := two_tail2 F22 A22 S22
              have zT := N22 _ (.head _)
              have zF := N22 _ (.tail _ (.tail _ (.head _)))
              have eT := kp22 _ _ (off1 (show @Ne Nat td wa by omega)) zT.1
              have eF := kp22 _ _ (off1 (show @Ne Nat fl wa by omega)) zF.1
              have N23 := News.cons (News.cons (News.cons Nx22 eF zF.2.2 zF.2.1) e22 zW.2.2 zW.2.1) eT zT.2.2 zT.2.1
              obtain ⟨pv, pn⟩ := p3
              have ev' : v = pv := ev
              subst ev'
              obtain ⟨T3, y1, y2, y3, rfl, hT3⟩ := TupAt.its (r := itemR (v, pn)) tv22
              dsimp only [itemR] at hT3
              clear F21 N22 zW zT zF eT eF A21 A22 S22 tv22 Nx22 hex20 cx20 hO20 e22
              (repeat' (first | (fail_if_success with_reducible refine Nf.go (by constructor) ?_); (fail_if_success fail_if_success with_reducible refine Fd.go (by constructor) ?_; k_fold); refine (let qk := _; let ek := _; (?_ : wpAny _ _ _ qk ek _)) | (fail_if_success fail_if_success k_unfold); (first | with_reducible refine (?_ : wpAny _ _ _ _ _ _) | k_unfold); (try dsimp only); try clear qk ek | (fail_if_success with_reducible refine Stop.go (by constructor) ?_); first | walk1 | dsimp only; walk1))
              refine sub_tup (j := 2) (x := .int pn y3) hT3 (by decide) (by decide) rfl rfl ?_
              (repeat' (first | (fail_if_success with_reducible refine Nf.go (by constructor) ?_); (fail_if_success fail_if_success with_reducible refine Fd.go (by constructor) ?_; k_fold); refine (let qk := _; let ek := _; (?_ : wpAny _ _ _ qk ek _)) | (fail_if_success fail_if_success k_unfold); (first | with_reducible refine (?_ : wpAny _ _ _ _ _ _) | k_unfold); (try dsimp only); try clear qk ek | (fail_if_success with_reducible refine Stop.go (by constructor) ?_); first | walk1 | dsimp only; walk1))
              rename Heap => h24; rename Fr _ _ _ _ => F24; rename News _ _ _ _ => N24
              refine WhlP.next W4.length (by rw [List.length_cons]; (clear hn hdp hu lwa o0 lt1 lt2 o3 o4 hnT hWl l11 hcl hwl hWl1 l21 hWl2 hwl2 hq0; lia)) ⟨W4, z + pn, _, tin3.merge, rfl, fun q hq => hmin2 q (hW3.subset (.tail _ hq)), by rw [List.length_cons] at hWl2; (clear hn hdp hu lwa o0 lt1 lt2 o3 o4 hnT hWl l11 hcl hwl hWl1 l21 hwl2 hq0 e1; lia), WSt.mk (toKF [(Str.ofString "waiting", .ref wa), (Str.ofString "told", .ref td), (Str.ofString "height", .int (-(v.length : Int)) x1), (Str.ofString "spot", .str (txt v) x2), (Str.ofString "size", .int (z + pn) _)] F24 ⟨rfl, rfl, rfl, rfl, rfl, trivial⟩) N24 cx22 hex22 O22⟩
            · rename_i e1
              have e : txt q0.1 ≠ txt v := fun q => by rw [q] at e1; simp at e1
              refine WhlIf.no rfl ⟨q0 :: W2r, z, tz, tin2, fun q hq => ?_, hWl2, WSt.mk F21 N22 cx20 hex20 hO20⟩
              have h1 : idx v < idx q0.1 := Nat.lt_of_le_of_ne hq0 fun h => e (by rw [(nd_pair _ hvN _ hqN).2.2.2.2.1 h])
              refine Nat.lt_of_lt_of_le h1 (itm_le hqN (tin2.wn q (.tail _ hq)).1 ?_)
              exact hO20.rootMem (lexLt_ok [true, false, true]) itm_sh _ (List.mem_map_of_mem hq)
        · rintro s' ⟨W2, z, tz, tin2, hlt2, hWl2, @⟨h, tk, u, wvs, tvs, kw, kt, ex2, F20, N20, cx20, hex20, hO20⟩⟩
          clear F14 N14
          (repeat' (first | (fail_if_success with_reducible refine Nf.go (by constructor) ?_); (fail_if_success fail_if_success with_reducible refine Fd.go (by constructor) ?_; k_fold); refine (let qk := _; let ek := _; (?_ : wpAny _ _ _ qk ek _)) | (fail_if_success fail_if_success k_unfold); (first | with_reducible refine (?_ : wpAny _ _ _ _ _ _) | k_unfold); (try dsimp only); try clear qk ek | (fail_if_success with_reducible refine Stop.go (by constructor) ?_); first | walk1 | dsimp only; walk1))
          rename_i TD h31 F31 N31 l31
          have ltd : @LT.lt Nat _ td TD := l31.1
          have lwa : @LT.lt Nat _ wa TD := l31.2.1
          have lfl : @LT.lt Nat _ fl TD := l31.2.2.1
          have A31 := hex20 h31 F31.keep fun p hp => (N31 p (.tail _ (.tail _ (.tail _ (.tail _ hp))))).1
          have hvN : v ∈ NDs := (tin2.wn _ (.head _)).1
          have hz := tin2.full hlt2
          have hTl : T.length ≤ 12 := by
            by_cases hv : v = []
            · subst hv
              have := (tin2.root hlt2).2.len
              rw [List.length_append, List.length_singleton] at this
              (clear hn hdp hu o0 lt1 lt2 o3 o4 hWl l11 hcl hwl hWl1 hWl2 l31 ltd lwa lfl hz; lia)
            · have := (tin2.up hF hlt2 hv).len
              rw [List.length_append, List.length_singleton] at this
              (clear hn hdp hu o0 lt1 lt2 o3 o4 hWl l11 hcl hwl hWl1 hWl2 l31 ltd lwa lfl hz; omega)
          have htl : tvs.length = T.length := by simpa using A31.2.length
          have N31' : News g L h31 ((td, listOf tvs.toArray kt) :: (TD, tupOf [.int (-(v.length : Int)) x1, .str (txt v) x2, .int z tz] 0) :: (wa, listOf wvs.toArray kw) :: (fl, listOf fvs.toArray kf) :: ex2) := Mine.News.sub N31 (by ((try simp only [List.cons_append, List.nil_append]); repeat' (first | exact .head _ | refine .tail _ ?_ | exact List.forall_mem_nil _ | refine List.forall_mem_cons.mpr ⟨?_, ?_⟩ | assumption | intro _ _)))
          refine append_li F31 N31' (fun p hp => ?_) (by (clear hn hdp hu o0 lt1 lt2 o3 o4 hWl l11 hcl hwl hWl1 hWl2 l31 ltd lwa lfl; lia)) fun h32 F32 N32 => ?_
          · rcases List.mem_cons.mp hp with rfl | hp
            · exact Nat.ne_of_gt ltd
            rcases List.mem_cons.mp hp with rfl | hp
            · exact Nat.ne_of_lt o4
            rcases List.mem_cons.mp hp with rfl | hp
            · exact Nat.ne_of_lt o3
            · exact off_lst N31' (.tail _ (.tail _ (.tail _ (.tail _ hp)))) (cx20 p hp) (N31' _ (.head _)).1
          clear F31 N31 N31'
          have hxl : (txt v).length ≤ 6 := (nd_one _ hvN).2.2.2.2.1
          (repeat' (first | (fail_if_success with_reducible refine Nf.go (by constructor) ?_); (fail_if_success fail_if_success with_reducible refine Fd.go (by constructor) ?_; k_fold); refine (let qk := _; let ek := _; (?_ : wpAny _ _ _ qk ek _)) | (fail_if_success fail_if_success k_unfold); (first | with_reducible refine (?_ : wpAny _ _ _ _ _ _) | k_unfold); (try dsimp only); try clear qk ek | (fail_if_success with_reducible refine Stop.go (by constructor) ?_); first | walk1 | dsimp only; walk1))
          · have ev : (txt v != Str.ofString "/") = true := by assumption
            have hv : v ≠ [] := fun q => by
              rw [(nd_one _ hvN).2.2.2.2.2.mp q] at ev
              simp at ev
            refine splith_spec X1 T1 F32.keep (by (clear hn hdp hu o0 lt1 lt2 o3 o4 hnT hWl l11 hcl hwl hWl1 hWl2 l31 ltd lwa lfl hz hTl htl; lia)) (by omega) (by omega) fun h33 tk33 P t1 t2 k33 eP => ?_
            have F33 := Mine.Fr.kept (h' := h33) (D := []) F32 k33 (fun b hb => no_mem hb) (fun hb => no_mem hb)
            have N33 := News.kept (h' := h33) (D := []) N32 k33 (fun p hp hb => no_mem hb)
            clear F32 N32
            (repeat' (first | (fail_if_success with_reducible refine Nf.go (by constructor) ?_); (fail_if_success fail_if_success with_reducible refine Fd.go (by constructor) ?_; k_fold); refine (let qk := _; let ek := _; (?_ : wpAny _ _ _ qk ek _)) | (fail_if_success fail_if_success k_unfold); (first | with_reducible refine (?_ : wpAny _ _ _ _ _ _) | k_unfold); (try dsimp only); try clear qk ek | (fail_if_success with_reducible refine Stop.go (by constructor) ?_); first | walk1 | dsimp only; walk1))
            refine sub_tup (j := 0) (x := .str (splitH (txt v)) t1) ⟨_, eP, rfl, _, rfl⟩ (by decide) (by decide) rfl rfl ?_
            rw [nd_head v hvN hv]
            (repeat' (first | (fail_if_success with_reducible refine Nf.go (by constructor) ?_); (fail_if_success fail_if_success with_reducible refine Fd.go (by constructor) ?_; k_fold); refine (let qk := _; let ek := _; (?_ : wpAny _ _ _ qk ek _)) | (fail_if_success fail_if_success k_unfold); (first | with_reducible refine (?_ : wpAny _ _ _ _ _ _) | k_unfold); (try dsimp only); try clear qk ek | (fail_if_success with_reducible refine Stop.go (by constructor) ?_); first | walk1 | dsimp only; walk1))
            rename_i TP h34 F34 N34 l34
            have A34 := hex20 h34 F34.keep fun p hp => (N34 p (.tail _ (.tail _ (.tail _ (.tail _ (.tail _ hp)))))).1
            have S34 : AllAt (TupAt h34) (tvs ++ [.ref TD]) ((T ++ [v]).map (tolD F)) := by
              rw [List.map_append]
              exact A34.2.append (.cons ⟨TD, _, 0, rfl, (N34 _ (.tail _ (.tail _ (.head _)))).1, .cons (.i _ _) (.cons (.s _ _) (.cons (hz ▸ .i _ _) .nil))⟩ .nil)
            have zW := N34 _ (.tail _ (.tail _ (.tail _ (.head _))))
            have zT := N34 _ (.tail _ (.head _))
            have zF := N34 _ (.tail _ (.tail _ (.tail _ (.tail _ (.head _)))))
            have hh1 : -(v.length : Int) + 1 = -(v.dropLast.length : Int) := by
              have := List.length_pos_iff.mpr hv
              rw [List.length_dropLast]
              (clear hn hdp hu o0 lt1 lt2 o3 o4 hnT hWl l11 hcl hwl hWl1 hWl2 l31 ltd lwa lfl hTl htl hxl l34; lia)
            refine heappush_spec (ds := W2.map itemD) (sh := [true, false, true]) (x := itemD (v.dropLast, z)) X1 T1 F34.keep zW.1 zW.2.2 A34.1 ⟨TP, _, 0, rfl, (N34 _ (.head _)).1, .cons (hh1 ▸ .i _ _) (.cons (.s _ _) (.cons (.i _ _) .nil))⟩ itm_sh rfl hO20 (by rw [List.length_map]; (clear hn hdp hu o0 lt1 lt2 o3 o4 hnT hWl l11 hcl hwl hWl1 l31 ltd lwa lfl hTl htl hxl l34 hh1; lia)) (by omega) (by omega) fun vs35 ds35 n35 h35 tk35 kp35 e35 A35 O35 p35 => ?_
            obtain ⟨W5, hW5, rfl⟩ := perm_itm (W := (v.dropLast, z) :: W2) p35
            have F35 := fr_kept F34 N34 kp35 (fun b hb => by rw [List.mem_singleton.mp hb]; exact ⟨_, .tail _ (.tail _ (.tail _ (.head _)))⟩)
            have S35 : AllAt (TupAt h35) (tvs ++ [.ref TD]) ((T ++ [v]).map (tolD F)) := S34.mono fun _ _ z => tup_kept z kp35 N34 (fun b hb => by rw [List.mem_singleton.mp hb]; exact ⟨_, .tail _ (.tail _ (.tail _ (.head _))), by simp⟩)
            obtain ⟨ex35, hex35, Nx35, cx35⟩ := two_tail2 F35 A35 S35
            have eT := kp35 _ _ (off1 (show @Ne Nat td wa by omega)) zT.1
            have eF := kp35 _ _ (off1 (show @Ne Nat fl wa by omega)) zF.1
            have N35 := News.cons (News.cons (News.cons Nx35 eF zF.2.2 zF.2.1) e35 zW.2.2 zW.2.1) eT zT.2.2 zT.2.1
            clear F34 N34 zW zT zF eT eF A34 S34 A35 S35 Nx35 e35
            (repeat' (first | (fail_if_success with_reducible refine Nf.go (by constructor) ?_); (fail_if_success fail_if_success with_reducible refine Fd.go (by constructor) ?_; k_fold); refine (let qk := _; let ek := _; (?_ : wpAny _ _ _ qk ek _)) | (fail_if_success fail_if_success k_unfold); (first | with_reducible refine (?_ : wpAny _ _ _ _ _ _) | k_unfold); (try dsimp only); try clear qk ek | (fail_if_success with_reducible refine Stop.go (by constructor) ?_); first | walk1 | dsimp only; walk1))
            exact WhlP.next (n - 1) (by (clear hn hdp hu o0 lt1 lt2 o3 o4 hWl l11 hcl hwl hWl1 hWl2 l31 ltd lwa lfl hxl l34 hh1; lia)) ⟨W5, T ++ [v], (tin2.up hF hlt2 hv).perm hW5, by rw [List.length_append, List.length_singleton]; (clear hn hdp hu o0 lt1 lt2 o3 o4 hWl l11 hcl hwl hWl1 hWl2 l31 ltd lwa lfl hxl l34 hh1; lia), by rw [hW5.length_eq, List.length_cons]; (clear hn hdp hu o0 lt1 lt2 o3 o4 hnT hWl l11 hcl hwl hWl1 l31 ltd lwa lfl hz hTl htl hxl l34 hh1; omega), WSt.mk (toKF [(Str.ofString "waiting", .ref wa), (Str.ofString "told", .ref td)] F35 ⟨rfl, rfl, trivial⟩) N35 cx35 hex35 O35⟩
          · have ev : (txt v != Str.ofString "/") = false := by assumption
            have hv : v = [] := (nd_one _ hvN).2.2.2.2.2.mpr (by simpa using ev)
            have A32 := hex20 h32 F32.keep fun p hp => (N32 p (.tail _ (.tail _ (.tail _ (.tail _ hp))))).1
            have S32 : AllAt (TupAt h32) (tvs ++ [.ref TD]) ((T ++ [v]).map (tolD F)) := by
              rw [List.map_append]
              exact A32.2.append (.cons ⟨TD, _, 0, rfl, (N32 _ (.tail _ (.head _))).1, .cons (.i _ _) (.cons (.s _ _) (.cons (hz ▸ .i _ _) .nil))⟩ .nil)
            obtain ⟨ex33, hex33, Nx33, cx33⟩ := two_tail2 F32 A32.1 S32
            have zW := N32 _ (.tail _ (.tail _ (.head _)))
            have zT := N32 _ (.head _)
            have zF := N32 _ (.tail _ (.tail _ (.tail _ (.head _))))
            have N33 := News.cons (News.cons (News.cons Nx33 zF.1 zF.2.2 zF.2.1) zW.1 zW.2.2 zW.2.1) zT.1 zT.2.2 zT.2.1
            subst hv
            obtain ⟨hW2, tin4⟩ := tin2.root hlt2
            subst hW2
            exact WhlP.next (n - 1) (by (clear hn hdp hu o0 lt1 lt2 o3 o4 hWl l11 hcl hwl hWl1 l31 ltd lwa lfl hz hxl ev hWl2; lia)) ⟨[], T ++ [[]], tin4, by rw [List.length_append, List.length_singleton]; (clear hn hdp hu o0 lt1 lt2 o3 o4 hWl l11 hcl hwl hWl1 l31 ltd lwa lfl hz hxl ev hWl2; lia), Nat.zero_le _, WSt.mk (toKF [(Str.ofString "waiting", .ref wa), (Str.ofString "told", .ref td)] F32 ⟨rfl, rfl, trivial⟩) N33 cx33 hex33 hO20⟩
    · rintro s' ⟨T, tin, @⟨h, tk, u, wvs, tvs, kw, kt, ex2, F10, N10, cx2, hex2, hO2⟩⟩
      clear F9 N9
      have A10 := hex2 h F10.keep fun p hp => (N10 p (.tail _ (.tail _ (.tail _ hp)))).1
      have hT : (toldRows F).map rowD = T.map (tolD F) := by rw [tin.done hF]; unfold toldRows; rw [List.map_map]; rfl
      (repeat' (first | (fail_if_success with_reducible refine Nf.go (by constructor) ?_); (fail_if_success fail_if_success with_reducible refine Fd.go (by constructor) ?_; k_fold); refine (let qk := _; let ek := _; (?_ : wpAny _ _ _ qk ek _)) | (fail_if_success fail_if_success k_unfold); (first | with_reducible refine (?_ : wpAny _ _ _ _ _ _) | k_unfold); (try dsimp only); try clear qk ek | (fail_if_success with_reducible refine Stop.go (by constructor) ?_); first | walk1 | dsimp only; walk1))
      refine ret _ _ td tvs kt (fun b o hb e => ?_) (keep_none KP (N10 _ (.head _)).2.2 fun hm => ?_) (N10 _ (.head _)).1 (by rw [hT]; exact A10.2)
      · by_cases hbl' : b = fl
        · subst hbl'
          rw [hp] at e; cases e
          exact (N10 _ (.tail _ (.tail _ (.head _)))).1
        · exact F10.keep b o (KP b o (by simp [hbl']) e)
      · rw [List.map_cons, List.map_nil, List.mem_singleton] at hm
        exact absurd hm (Nat.ne_of_gt o3)

end
structure PB (n : Nat) (p : Array Nat) : Prop where
  perm : p.toList.Perm (List.range n)
theorem PB.size {n : Nat} {p : Array Nat} (h : PB n p) : p.size = n := by
  have := h.perm.length_eq
  rwa [Array.length_toList, List.length_range] at this
theorem PB.lt {n : Nat} {p : Array Nat} (h : PB n p) {i : Nat} (hi : i < n) : p.getD i 0 < n := by
  have hs := h.size
  rw [Array.getD_eq_getD_getElem?, Array.getElem?_eq_getElem (by lia), Option.getD_some]
  exact List.mem_range.mp (h.perm.subset (by simp))
theorem PB.inj {n : Nat} {p : Array Nat} (h : PB n p) {i j : Nat} (hi : i < n) (hj : j < n) (e : p.getD i 0 = p.getD j 0) : i = j := by
  have hs := h.size
  have nd : p.toList.Nodup := h.perm.nodup_iff.mpr List.nodup_range
  rw [Array.getD_eq_getD_getElem?, Array.getElem?_eq_getElem (by (clear hj e; omega)), Array.getD_eq_getD_getElem?, Array.getElem?_eq_getElem (by (clear e; lia)), Option.getD_some, Option.getD_some] at e
  exact (List.getElem_inj (xs := p.toList) (i := i) (j := j) (h₀ := by simp; (clear e; lia)) (h₁ := by simp; (clear e; omega)) nd).mp (by simpa using e)
theorem PB.of {n : Nat} {p q : Array Nat} (h : PB n p) (e : q.Perm p) : PB n q := ⟨e.toList.trans h.perm⟩
section
variable {n : Nat} {k : Nat → Nat} {cmp : Nat → Nat → (Bool → Shared → Prop) → Shared → Prop} {s : Shared}
noncomputable abbrev KP (k : Nat → Nat) (p : Array Nat) (i : Nat) : Nat := k (p.getD i 0)
noncomputable def AscP (k : Nat → Nat) (p : Array Nat) (m : Nat) : Prop := ∀ i j, i < j → j < m → KP k p i < KP k p j
noncomputable def DescP (k : Nat → Nat) (p : Array Nat) (m : Nat) : Prop := ∀ i j, i < j → j < m → KP k p j < KP k p i
structure CmpOk (s : Shared) (n : Nat) (k : Nat → Nat) (cmp : Nat → Nat → (Bool → Shared → Prop) → Shared → Prop) : Prop where
  cmp : ∀ i j C, i < n → j < n → i ≠ j → C (decide (k i < k j)) s → cmp i j C s
  inj : ∀ i j, i < n → j < n → k i = k j → i = j
theorem CmpOk.at (c : CmpOk s n k cmp) {p : Array Nat} (h : PB n p) {i j : Nat} (hi : i < n) (hj : j < n) (ne : i ≠ j) {C : Bool → Shared → Prop}
    (h1 : KP k p i < KP k p j → C true s) (h2 : KP k p j < KP k p i → C false s) : cmp (p.getD i 0) (p.getD j 0) C s := by
  refine c.cmp _ _ _ (h.lt hi) (h.lt hj) (fun e => ne (h.inj hi hj e)) ?_
  by_cases e : KP k p i < KP k p j
  · rw [decide_eq_true e]; exact h1 e
  · rw [decide_eq_false e]
    refine h2 (Nat.lt_of_le_of_ne (Nat.le_of_not_lt e) fun q => ne (h.inj hi hj (c.inj _ _ (h.lt hi) (h.lt hj) q.symm)))
theorem asc_one {p : Array Nat} : AscP k p 1 := fun i j h1 h2 => by omega
theorem AscP.snoc {p : Array Nat} {m : Nat} (h : AscP k p m) (h0 : 0 < m) (hl : KP k p (m - 1) < KP k p m) : AscP k p (m + 1) := fun i j h1 h2 => by
  by_cases e : j = m
  · subst e
    by_cases e2 : i = j - 1
    · subst e2; exact hl
    · exact Nat.lt_trans (h i (j - 1) (by (clear hl h2; omega)) (by (clear h1 hl h2 e2; omega))) hl
  · exact h i j h1 (by (clear h0 hl h1; lia))
theorem DescP.snoc {p : Array Nat} {m : Nat} (h : DescP k p m) (h0 : 0 < m) (hl : KP k p m < KP k p (m - 1)) : DescP k p (m + 1) := fun i j h1 h2 => by
  by_cases e : j = m
  · subst e
    by_cases e2 : i = j - 1
    · subst e2; exact hl
    · exact Nat.lt_trans hl (h i (j - 1) (by (clear hl h2; omega)) (by (clear h1 hl h2 e2; omega)))
  · exact h i j h1 (by (clear h0 hl h1; omega))
theorem asc_wp (c : CmpOk s n k cmp) {p : Array Nat} (hp : PB n p) {Q : Nat → Shared → Prop} : ∀ (f m : Nat), m + f = n → 1 ≤ m → AscP k p m →
    (∀ r, m ≤ r → r ≤ n → AscP k p r → (r < n → KP k p r < KP k p (r - 1)) → Q r s) → (kas_asc p f m).kasWp cmp Q s
  | 0, m, hm, h1, ha, hQ => hQ m (Nat.le_refl _) (by (clear h1; lia)) ha fun h => by (clear h1; lia)
  | f + 1, m, hm, h1, ha, hQ => c.at hp (by (clear h1; lia)) (by omega) (by lia)
    (fun h => hQ m (Nat.le_refl _) (by (clear h1 h; lia)) ha fun _ => h)
    (fun h => asc_wp c hp f (m + 1) (by (clear h1 h; lia)) (by (clear h; lia)) (ha.snoc h1 h) fun r hr => hQ r (by (clear h1 h; lia)))
theorem desc_wp (c : CmpOk s n k cmp) {p : Array Nat} (hp : PB n p) {Q : Array Nat × Nat × Nat → Shared → Prop} : ∀ (f m : Nat), m + f = n → 2 ≤ m → DescP k p m →
    (∀ r, 1 ≤ r → r ≤ n → DescP k p r → Q (p, r, 0) s) → (kas_desc f p m 0).kasWp cmp Q s
  | 0, m, hm, h1, ha, hQ => hQ m (by lia) (by (clear h1; omega)) ha
  | f + 1, m, hm, h1, ha, hQ => c.at hp (by (clear h1; omega)) (by omega) (by lia)
    (fun h => by
      show ((if true = true then _ else _ : KasT _)).kasWp cmp Q s
      rw [if_pos rfl, if_neg (by (clear hm h1 h; lia))]
      exact desc_wp c hp f (m + 1) (by (clear h1 h; omega)) (by (clear h; lia)) (ha.snoc (by (clear h; lia)) h) hQ)
    (fun h => by
      show ((if false = true then _ else _ : KasT _)).kasWp cmp Q s
      rw [if_neg (by decide)]
      exact c.at hp (by (clear h; omega)) (by (clear h1 h; omega)) (by (clear h; lia)) (fun _ => hQ m (by (clear h; lia)) (by (clear h1 h; lia)) ha) (fun h' => absurd h (Nat.lt_asymm h')))
theorem rev_at {p : Array Nat} {r i : Nat} (hr : r ≤ p.size) (hi : i < r) : (kas_rev p 0 r).getD i 0 = p.getD (r - 1 - i) 0 := by
  rw [Array.getD_eq_getD_getElem?, Array.getD_eq_getD_getElem?]
  show (Option.getD (mirror p 0 r ((r - 0) / 2))[i]? 0) = _
  rw [getElem?_mirror_all hr i, if_pos ⟨Nat.zero_le _, hi⟩, show 0 + r - 1 - i = r - 1 - i by (clear hr; lia)]
theorem count_wp (c : CmpOk s n k cmp) {p : Array Nat} (hp : PB n p) (h0 : 1 ≤ n) {Q : Nat × Array Nat → Shared → Prop}
    (hQ : ∀ m q, 1 ≤ m → m ≤ n → PB n q → AscP k q m → Q (m, q) s) : (kas_count n p).kasWp cmp Q s := by
  unfold kas_count
  rw [KasT.kasWp_bind]
  refine asc_wp c hp (n - 1) 1 (by omega) (Nat.le_refl _) asc_one fun r h1 h2 ha hd => ?_
  by_cases e : r = n
  · rw [if_pos (by simpa using e)]
    exact hQ r p h1 h2 hp ha
  · rw [if_neg (by simpa using e)]
    by_cases e1 : r > 1
    · rw [if_pos e1]
      exact c.at hp (by (clear h1 h2 hd e e1; lia)) (by (clear h0 h1 hd e; omega)) (by (clear h0 h1 h2 hd e; omega)) (fun _ => hQ r p h1 h2 hp ha) (fun h => absurd (ha 0 (r - 1) (by (clear h0 h1 h2 hd e h; omega)) (by (clear h0 h1 h2 hd e h; omega))) (Nat.lt_asymm h))
    · rw [if_neg e1]
      obtain rfl : r = 1 := by (clear h0 h2 hd e; lia)
      unfold kas_descPart
      rw [KasT.kasWp_bind]
      have hd2 : DescP k p 2 := fun i j h3 h4 => by
        obtain ⟨rfl, rfl⟩ : i = 0 ∧ j = 1 := by (clear h0 h1 h2 hd e e1; lia)
        exact hd (by (clear h1 h2 hd e1 h4 h3; lia))
      refine desc_wp c hp (n - 2) 2 (by (clear h1 h2 e1; lia)) (Nat.le_refl _) hd2 fun r h3 h4 hr => ?_
      show (if (0 : Nat) > 0 then _ else _ : KasT _).kasWp cmp Q s
      rw [if_neg (by (clear h1 h2 e1 h3 h4; lia))]
      unfold kas_tail3
      rw [KasT.kasWp_bind]
      have hq : PB n (kas_rev p 0 r) := hp.of (mirror_perm _ _ _ _)
      have hs := hp.size
      refine asc_wp c hq (n - r) r (by (clear h1 h2 e1 h3; lia)) h3 (fun i j h5 h6 => ?_) fun m h5 h6 ha2 _ => hQ m _ (by (clear h1 h2 e1 h4 hs h6; lia)) h6 hq ha2
      show k _ < k _
      rw [rev_at (by (clear h1 h2 e1 h3 h5 h6; lia)) (by (clear h1 h2 e1 h3 h4 hs; lia)), rev_at (by (clear h1 h2 e1 h3 h5 h6; omega)) (by (clear h1 h2 e1 h3 h4 hs h5; omega))]
      exact hr _ _ (Nat.sub_lt_sub_left (Nat.lt_of_lt_of_le h5 (Nat.le_sub_one_of_lt h6)) h5) (by (clear h1 h2 e1 h3 h4 hs; omega))
theorem place_wp (c : CmpOk s n k cmp) {p : Array Nat} (hp : PB n p) {m : Nat} (hm : m < n) {Q : Nat → Shared → Prop} (ha : AscP k p m) : ∀ (f l r : Nat), l ≤ r → r ≤ m → r - l ≤ f → (∀ i, i < l → KP k p i < KP k p m) → (∀ i, r ≤ i → i < m → KP k p m < KP k p i) →
    (∀ l, l ≤ m → (∀ i, i < l → KP k p i < KP k p m) → (∀ i, l ≤ i → i < m → KP k p m < KP k p i) → Q l s) → (kas_place p m f l r).kasWp cmp Q s
  | 0, l, r, h1, h2, h3, lo, hi, hQ => hQ l (by (clear hm h3; lia)) lo fun i h => hi i (by (clear hm h2; lia))
  | f + 1, l, r, h1, h2, h3, lo, hi, hQ => by
    show (if l ≥ r then _ else _ : KasT _).kasWp cmp Q s
    by_cases e : l ≥ r
    · rw [if_pos e]
      exact hQ l (by (clear hm h3; lia)) lo fun i h => hi i (by (clear hm h2 h3; lia))
    · rw [if_neg e]
      refine c.at hp hm (by (clear h1 h3; lia)) (by (clear hm h1 h3; lia)) (fun h => ?_) (fun h => ?_)
      · show (if true = true then _ else _ : KasT _).kasWp cmp Q s
        rw [if_pos rfl]
        refine place_wp c hp hm ha f l _ (by (clear hm h1 h2 h3 h; lia)) (by (clear hm h1 h3 h; lia)) (Nat.le_of_lt_succ (Nat.lt_of_lt_of_le (Nat.sub_lt_sub_right ((Nat.le_div_iff_mul_le (by decide)).mpr (by rw [Nat.mul_two]; exact Nat.add_le_add_left h1 l)) (Nat.div_lt_of_lt_mul (by rw [Nat.two_mul]; exact Nat.add_lt_add_right (Nat.lt_of_not_le e) r))) h3)) lo (fun i h4 h5 => ?_) hQ
        by_cases e2 : i = (l + r) / 2
        · rw [e2]; exact h
        · exact Nat.lt_trans h (ha _ _ (by (clear hm h1 h2 h3 e h h5; lia)) h5)
      · show (if false = true then _ else _ : KasT _).kasWp cmp Q s
        rw [if_neg (by decide)]
        refine place_wp c hp hm ha f _ r (by (clear hm h1 h2 h3 h; lia)) h2 (Nat.le_trans (Nat.sub_le_sub_left (Nat.succ_le_succ ((Nat.le_div_iff_mul_le (by decide)).mpr (by rw [Nat.mul_two]; exact Nat.add_le_add_left h1 l))) r) (Nat.pred_le_pred h3)) (fun i h4 => ?_) hi hQ
        by_cases e2 : i = (l + r) / 2
        · rw [e2]; exact h
        · exact Nat.lt_trans (ha _ _ (by (clear hm h1 h2 h3 e h; lia)) (by (clear hm h1 h3 h h4 e2; lia))) h
theorem bub_at {p : Array Nat} {m l i : Nat} (hm : m < p.size) (hl : l ≤ m) : (bubble p m (m - l)).getD i 0 = if i = l then p.getD m 0 else if l < i ∧ i ≤ m then p.getD (i - 1) 0 else p.getD i 0 := by
  rw [Array.getD_eq_getD_getElem?, getElem?_bubble hm (m - l) (by (clear hm; omega)) i, Nat.sub_sub_self hl]
  by_cases h1 : i = l
  · rw [if_pos h1, if_pos h1, Array.getD_eq_getD_getElem?]
  · rw [if_neg h1, if_neg h1]
    by_cases h2 : l < i ∧ i ≤ m
    · rw [if_pos h2, if_pos h2, Array.getD_eq_getD_getElem?]
    · rw [if_neg h2, if_neg h2, Array.getD_eq_getD_getElem?]
theorem bin_wp (c : CmpOk s n k cmp) {Q : Array Nat → Shared → Prop} (hQ : ∀ q, PB n q → AscP k q n → Q q s) : ∀ (f : Nat) (p : Array Nat) (m : Nat), m + f = n → PB n p → AscP k p m → (kas_bin f p m).kasWp cmp Q s
  | 0, p, m, hm, hp, ha => hQ p hp (by rw [← hm]; exact ha)
  | f + 1, p, m, hm, hp, ha => by
    show ((kas_place p m m 0 m).bind _).kasWp cmp Q s
    rw [KasT.kasWp_bind]
    refine place_wp c hp (by omega) ha m 0 m (Nat.zero_le _) (Nat.le_refl _) (by lia) (fun i h => by (clear hm; lia)) (fun i h1 h2 => by lia) fun l hl lo hi => ?_
    have hs := hp.size
    refine bin_wp c hQ f _ (m + 1) (by (clear hl hs; omega)) (hp.of (bubble_perm _ _ _)) fun i j h1 h2 => ?_
    show k _ < k _
    rw [bub_at (by (clear hl h1 h2; lia)) hl, bub_at (by (clear hl h1 h2; omega)) hl]
    by_cases e1 : i = l
    · rw [if_pos e1, if_neg (by (clear hm hl hs h2; lia)), if_pos (by (clear hl; lia))]
      exact hi (j - 1) (by (clear hm hl hs h2; omega)) (Nat.lt_of_lt_of_le (Nat.sub_lt (Nat.zero_lt_of_lt h1) Nat.one_pos) (Nat.le_of_lt_succ h2))
    · rw [if_neg e1]
      by_cases e2 : j = l
      · rw [if_pos e2, if_neg (by (clear hm hl hs h2 e1; lia))]
        exact lo i (by (clear hm hl hs h2 e1; lia))
      · rw [if_neg e2]
        by_cases e3 : l < i ∧ i ≤ m
        · rw [if_pos e3, if_pos (by (clear hl e1 e2; lia))]
          exact ha _ _ (Nat.sub_lt_sub_right (Nat.zero_lt_of_lt e3.1) h1) (Nat.lt_of_lt_of_le (Nat.sub_lt (Nat.zero_lt_of_lt h1) Nat.one_pos) (Nat.le_of_lt_succ h2))
        · rw [if_neg e3]
          by_cases e4 : l < j ∧ j ≤ m
          · rw [if_pos e4]
            exact ha _ _ (by (clear hl; lia)) (by (clear hl e1 e2 e3 e4; omega))
          · rw [if_neg e4]
            exact ha _ _ h1 (by (clear e1; lia))
theorem sort_wp (c : CmpOk s n k cmp) (h0 : 1 ≤ n) {Q : Array Nat → Shared → Prop} (hQ : ∀ q, PB n q → AscP k q n → Q q s) : (kas_sort n).kasWp cmp Q s := by
  unfold kas_sort
  rw [KasT.kasWp_bind]
  refine count_wp c (p := List.toArray (List.range n)) ⟨.refl _⟩ h0 fun m q h1 h2 hq ha => ?_
  by_cases e : m < n
  · rw [if_pos e, Nat.max_eq_left h1]
    exact bin_wp c hQ _ _ _ (by (clear h0 h1 h2; lia)) hq ha
  · rw [if_neg e]
    have em : m = n := by (clear h0 h1; lia)
    exact hQ q hq (em ▸ ha)
end

theorem ints_one (n : Int) (t : Tok) : PyProof.Rows.IntsAre [Value.int n t] [n] := .cons n t .nil
theorem StrsAre.drop : ∀ {n : Nat} {vs : List Value} {xs : List Str}, StrsAre vs xs → StrsAre (vs.drop n) (xs.drop n)
  | 0, _, _, h => h
  | _ + 1, _, _, .nil => .nil
  | n + 1, _, _, .cons h => h.drop (n := n)
theorem StrsAre.take : ∀ {n : Nat} {vs : List Value} {xs : List Str}, StrsAre vs xs → StrsAre (vs.take n) (xs.take n)
  | 0, _, _, _ => .nil
  | _ + 1, _, _, .nil => .nil
  | n + 1, _, _, .cons h => .cons (h.take (n := n))
noncomputable def LsAt (h : Heap) (v : Value) (d : List Pv) : Prop := ∃ a vs n, v = .ref a ∧ h.get? a = some (listOf vs.toArray n) ∧ PvsAre vs d
noncomputable def NmAt (h : Heap) (v : Value) (d : List Pv) : Prop := ∃ T a t vs k n ds, v = .ref T ∧ d = .i n :: ds ∧ IsTup h T #[.ref a, .int n t] ∧ h.get? a = some (listOf vs.toArray k) ∧ PvsAre vs ds
noncomputable abbrev nameD (v : List Str) : List Pv := v.map Pv.s
noncomputable abbrev fileN (p : Itm) : List Pv := .i p.2 :: nameD p.1
theorem StrsAre.pvs {vs : List Value} {xs : List Str} (h : StrsAre vs xs) : PvsAre vs (nameD xs) := by
  induction h with
  | nil => exact .nil
  | cons _ ih => exact .cons (.s _ _) ih
theorem PvsAre.strs : ∀ {xs : List Str} {vs : List Value}, PvsAre vs (nameD xs) → StrsAre vs xs
  | [], _, h => by cases h; exact .nil
  | x :: xs, _, h => by
    cases h with
    | cons h1 h2 => cases h1; exact .cons h2.strs
theorem LsAt.keeps {h h' : Heap} {v : Value} {d : List Pv} (x : LsAt h v d) (k : ∀ b o, h.get? b = some o → h'.get? b = some o) : LsAt h' v d := by
  obtain ⟨a, vs, n, e, g, p⟩ := x
  exact ⟨a, vs, n, e, k _ _ g, p⟩
theorem LsAt.inj {h : Heap} {v : Value} {d e : List Pv} (x : LsAt h v d) (y : LsAt h v e) : d = e := by
  obtain ⟨a1, us1, n1, e1, g1, p1⟩ := x
  obtain ⟨a2, us2, n2, e2, g2, p2⟩ := y
  rw [e1] at e2; cases e2
  rw [g1] at g2; cases g2
  exact p1.inj p2
theorem nameD_inj : ∀ {a b : List Str}, nameD a = nameD b → a = b
  | [], [], _ => rfl
  | x :: a, y :: b, h => by
    obtain ⟨h1, h2⟩ := List.cons.inj (show Pv.s x :: nameD a = Pv.s y :: nameD b from h)
    rw [Pv.s.inj h1, nameD_inj h2]
section
variable {prog : Program} {w : World} {A : Around} {E : Value → Shared → Prop} {s : Shared} {a b : Addr} {n n2 : Nat} {Q : Value → Shared → Prop}
theorem PvsAre.at {vs : List Value} {ds : List Pv} (h : PvsAre vs ds) : ∀ (i : Nat) (h1 : i < vs.length) (h2 : i < ds.length), IsPv vs[i] ds[i] := by
  induction h with
  | nil => exact fun i h => absurd h (Nat.not_lt_zero _)
  | cons h0 _ ih => exact fun i h1 h2 => match i with
    | 0 => h0
    | i + 1 => ih i (Nat.lt_of_succ_lt_succ h1) (Nat.lt_of_succ_lt_succ h2)
theorem rc_ls {us vs : List Value} {d e : List Str} (ga : s.heap.get? a = some (listOf us.toArray n)) (gb : s.heap.get? b = some (listOf vs.toArray n2)) (pa : PvsAre us (nameD d)) (pb : PvsAre vs (nameD e)) (hu : A.units < cLine) : SeqAt.RcAt A s (.ref a) (.ref b) (decide (d = e)) := by
  have l1 := pa.length
  have l2 := pb.length
  rw [List.length_map] at l1 l2
  by_cases hl : d.length = e.length
  · have z := SeqAt.RcAt.lists (A := A) (s := s) (items := us.toArray) (items2 := vs.toArray) (e := fun j => decide (d[j]? = e[j]?)) ⟨_, ga, rfl, _, rfl⟩ ⟨_, gb, rfl, _, rfl⟩ (by rw [List.size_toArray, List.size_toArray, l1, l2, hl]) hu (fun j h1 h2 => by
      have h1 : j < us.length := by simpa using h1
      have h2 : j < vs.length := by simpa using h2
      have z1 := pa.at j h1 (by rw [List.length_map]; exact l1 ▸ h1)
      have z2 := pb.at j h2 (by rw [List.length_map]; exact l2 ▸ h2)
      rw [List.getElem_map] at z1 z2
      rw [List.getElem?_eq_getElem (l1 ▸ h1), List.getElem?_eq_getElem (l2 ▸ h2)]
      have z := eqAt_pv (A := A.in1) (s := s) z1 z2 rfl
      simpa using z)
    have e9 : (List.range us.toArray.size).all (fun j => decide (d[j]? = e[j]?)) = decide (d = e) := by
      by_cases q : d = e
      · subst q; rw [decide_eq_true rfl]; simp
      · rw [decide_eq_false q]
        refine Bool.eq_false_iff.mpr fun h => q (List.ext_getElem? fun j => ?_)
        by_cases hj : j < us.length
        · exact of_decide_eq_true (List.all_eq_true.mp h j (List.mem_range.mpr (by simpa using hj)))
        · rw [List.getElem?_eq_none (by (clear h; lia)), List.getElem?_eq_none (by (clear h; lia))]
    rw [e9] at z
    exact z
  · rw [decide_eq_false fun q => hl (by rw [q])]
    exact SeqAt.RcAt.lists_lengths (items := us.toArray) (items2 := vs.toArray) ⟨_, ga, rfl, _, rfl⟩ ⟨_, gb, rfl, _, rfl⟩ (by simpa [l1, l2] using hl) hu
theorem eqAt_ls {u v : Value} {d e : List Str} (hx : LsAt s.heap u (nameD d)) (hy : LsAt s.heap v (nameD e)) (hu : A.units < cLine) : SeqAt.EqAt A s u v (decide (d = e)) := by
  obtain ⟨a, us, na, rfl, ga, pa⟩ := id hx
  obtain ⟨b, vs, nb, rfl, gb, pb⟩ := id hy
  by_cases hab : a = b
  · subst hab
    rw [decide_eq_true (nameD_inj (hx.inj hy))]
    exact SeqAt.EqAt.same _
  · exact SeqAt.EqAt.of_refs hab (rc_ls ga gb pa pb hu)
open Classical in
theorem notin_ls {vs : List Value} {gs : List (List Str)} {v : Value} {u : List Str} (ha : s.heap.get? a = some (listOf vs.toArray n)) (hA : AllAt (LsAt s.heap) vs (gs.map nameD)) (hv : LsAt s.heap v (nameD u)) (hu : A.in1.units < cLine)
    (h : Q (.bool (!decide (u ∈ gs))) s) : wpAny (model prog w) A (compareOp .NotIn v (.ref a)) Q E s := by
  refine SeqAt.notIn_listAt (items := vs.toArray) (fun y => decide (LsAt s.heap y (nameD u))) ⟨_, ha, rfl, _, rfl⟩ (fun y hy => ?_) ?_
  · obtain ⟨i, hi⟩ := List.getElem?_of_mem (show y ∈ vs by simpa using hy)
    obtain ⟨d, hd, td⟩ := hA.getV hi
    rw [List.getElem?_map] at hd
    cases e : gs[i]? with
    | none => rw [e] at hd; cases hd
    | some x =>
      rw [e] at hd
      obtain rfl : nameD x = d := Option.some.inj hd
      have z := eqAt_ls (A := A.in1) td hv hu
      have e2 : decide (x = u) = decide (LsAt s.heap y (nameD u)) := by
        by_cases hc : x = u
        · subst hc
          rw [decide_eq_true rfl, decide_eq_true td]
        · rw [decide_eq_false hc, decide_eq_false fun k => hc (nameD_inj (td.inj k))]
      rw [← e2]; exact z
  · have e : vs.toArray.any (fun y => decide (LsAt s.heap y (nameD u))) = decide (u ∈ gs) := by
      rw [← Array.any_toList]
      show vs.any _ = _
      by_cases hm : u ∈ gs
      · rw [decide_eq_true hm]
        obtain ⟨i, hi, rfl⟩ := List.getElem_of_mem hm
        obtain ⟨y, hy, ty⟩ := hA.get (i := i) (by rw [List.length_map]; exact hi)
        rw [List.getElem_map] at ty
        exact List.any_eq_true.mpr ⟨y, List.mem_of_getElem? hy, decide_eq_true ty⟩
      · rw [decide_eq_false hm]
        refine Bool.eq_false_iff.mpr fun h9 => hm ?_
        obtain ⟨y, hy, ty⟩ := List.any_eq_true.mp h9
        obtain ⟨i, hi⟩ := List.getElem?_of_mem hy
        obtain ⟨d, hd, td⟩ := hA.getV hi
        rw [List.getElem?_map] at hd
        cases e : gs[i]? with
        | none => rw [e] at hd; cases hd
        | some x =>
          rw [e] at hd
          obtain rfl : nameD x = d := Option.some.inj hd
          rw [← nameD_inj (td.inj (of_decide_eq_true ty))]
          exact List.mem_of_getElem? e
    rw [e]; exact h
theorem one_lt {c : Bool} {u v : Value} {x y : Pv} {Q : Bool → Shared → Prop} (hx : IsPv u x) (hy : IsPv v y) (hk : x.isI = y.isI) (h : Q (Pv.lt x y) s) : wpAny (model prog w) A (oneLt' c u v) Q E s := by
  cases c with
  | false => exact kat_one _ _ (lt_pv hx hy hk h)
  | true =>
    cases hx with
    | i a t => cases hy with
      | i b t' => exact oneLt_int h
      | s b t' => cases hk
    | s a t => cases hy with
      | i b t' => cases hk
      | s b t' => exact oneLt_str h
theorem kat_lex {c : Bool} {Q : Bool → Shared → Prop} {xs : List Pv} {us : List Value} (h1 : PvsAre us xs) : ∀ {ys : List Pv} {vs : List Value} {i : Nat}, PvsAre vs ys → xs.map Pv.isI = ys.map Pv.isI → Q (lexLt xs ys) s → KatLex prog w A c false Q (us.zip vs) i s := by
  induction h1 with
  | nil =>
    intro ys vs i k1 hk h
    cases k1 with
    | nil => exact kat_nil h
    | cons _ _ => cases hk
  | cons h1 _ ih =>
    intro ys vs i k1 hk h
    cases k1 with
    | nil => cases hk
    | cons k1 k2 =>
      obtain ⟨e1, e2⟩ := List.cons.inj hk
      refine kat_cons (eqBool_pv h1 k1 e1 ?_)
      unfold lexLt at h
      split at h
      · rename_i e
        rw [decide_eq_true e]
        exact kat_yes (ih k2 e2 h)
      · rename_i e
        rw [decide_eq_false e]
        exact kat_no (one_lt h1 k1 e1 h)
theorem key_lt {c : Bool} {u v : Value} {xs ys : List Pv} {Q : Bool → Shared → Prop} (hx : TupAt s.heap u xs) (hy : TupAt s.heap v ys) (hk : xs.map Pv.isI = ys.map Pv.isI) (h : Q (lexLt xs ys) s) : wpAny (model prog w) A (keyLt' (tuples' c) u v) Q E s := by
  obtain ⟨a, us, na, rfl, ga, pa⟩ := hx
  obtain ⟨b, vs, nb, rfl, gb, pb⟩ := hy
  refine kat_lt ga rfl gb rfl ?_
  have hl : ¬ us.toArray.size < vs.toArray.size := by
    have := congrArg List.length hk
    rw [List.length_map, List.length_map, ← pa.length, ← pb.length] at this
    simp [this]
  rw [decide_eq_false hl]
  exact kat_lex pa pb hk h
end

theorem row_firsts {h : Heap} {vs : List Value} {ds : List DD} (z : AllAt (TupAt h) vs ds) (hd : ∀ d ∈ ds, ∃ n r, d = .i n :: r) : ∃ fs, KatTups h vs fs ∧ fs.length = vs.length ∧ ∀ f ∈ fs, ∃ n t, f = Value.int n t := by
  induction z with
  | nil => exact ⟨[], .nil, rfl, fun _ h => no_mem h⟩
  | @cons v d vs ds hv _ ih =>
    obtain ⟨fs, h1, h2, h3⟩ := ih fun d hd' => hd d (.tail _ hd')
    obtain ⟨n, r, rfl⟩ := hd d (.head _)
    obtain ⟨a, us, k, rfl, ga, pa⟩ := hv
    cases pa with
    | @cons u _ us _ k1 _ =>
      cases k1 with
      | i _ t => exact ⟨.int n t :: fs, .cons ga rfl rfl (by simp) h1, by rw [List.length_cons, List.length_cons, h2], fun f hf => (List.mem_cons.mp hf).elim (fun q => ⟨n, t, q⟩) (h3 f)⟩
theorem all_map {P : Value → DD → Prop} {f : Nat → Value} {g : Nat → DD} : ∀ {l : List Nat}, (∀ i ∈ l, P (f i) (g i)) → AllAt P (l.map f) (l.map g)
  | [], _ => .nil
  | _ :: _, h => .cons (h _ (.head _)) (all_map fun i hi => h i (.tail _ hi))
theorem row_at {P : Value → DD → Prop} {vs : List Value} {gs : List (List Str)} {d : List Str → DD} (z : AllAt P vs (gs.map d)) {i : Nat} (hi : i < gs.length) : P (vs.getD i .none) (d (gs.getD i [])) := by
  obtain ⟨v, hv, t⟩ := z.get (i := i) (by rw [List.length_map]; exact hi)
  rw [List.getElem_map] at t
  rw [List.getD_eq_getElem?_getD, hv, Option.getD_some, List.getD_eq_getElem?_getD, List.getElem?_eq_getElem hi, Option.getD_some]
  exact t
theorem gs_inj {gs : List (List Str)} (hn : gs.Nodup) {i j : Nat} (hi : i < gs.length) (hj : j < gs.length) (e : gs.getD i [] = gs.getD j []) : i = j := by
  rw [List.getD_eq_getElem?_getD, List.getElem?_eq_getElem hi, Option.getD_some, List.getD_eq_getElem?_getD, List.getElem?_eq_getElem hj, Option.getD_some] at e
  exact (List.getElem_inj (xs := gs) (i := i) (j := j) (h₀ := hi) (h₁ := hj) hn).mp e
theorem map_range {α : Type} {gs : List α} {d : α} : (List.range gs.length).map (fun i => gs.getD i d) = gs := by
  refine List.ext_getElem (by rw [List.length_map, List.length_range]) fun i h1 h2 => ?_
  rw [List.getElem_map, List.getElem_range, List.getD_eq_getElem?_getD, List.getElem?_eq_getElem h2, Option.getD_some]
theorem sorted_gs {F : List Itm} {gs : List (List Str)} {q : Array Nat} (hp : gs.Perm (NDs.filter (alive F))) (hq : PB gs.length q) (ha : AscP (fun i => idx (gs.getD i [])) q gs.length) : q.toList.map (fun i => gs.getD i []) = NDs.filter (alive F) := by
  refine strict_ext (List.pairwise_iff_getElem.mpr fun i j hi hj hij => ?_) (nd_sorted.filter _) fun v => ?_
  · have hs := hq.size
    rw [List.length_map, Array.length_toList] at hi hj
    have z := ha i j hij (by (clear hi hij; lia))
    rw [List.getElem_map, List.getElem_map]
    simpa [KP, Array.getD_eq_getD_getElem?, Array.getElem?_eq_getElem hi, Array.getElem?_eq_getElem hj] using z
  · have z := hq.perm.map fun i => gs.getD i []
    rw [map_range] at z
    exact z.mem_iff.trans hp.mem_iff
section
variable {w : World} {prog : Program} {A : Around} {E : Value → Shared → Prop} {s : Shared} {g : Heap} {L : Addr} {m : Str → Option Value} {news : List (Addr × Obj)}
theorem sorted_rows {l : Addr} {F : List Itm} {dvs : List Value} {k : Nat} {gs : List (List Str)} {Q : Value → Shared → Prop} (F7 : Fr g L s.heap m) (N7 : News g L s.heap news) (hl : s.heap.get? l = some (listOf dvs.toArray k))
    (hA : ∀ h', (∀ b o, g.get? b = some o → h'.get? b = some o) → (∀ p ∈ news, h'.get? p.1 = some p.2) → AllAt (TupAt h') dvs (gs.map (fun v => rowD (itemR (v, wt F v)))))
    (hgN : ∀ v ∈ gs, v ∈ NDs) (hgn : gs.Nodup) (h2 : 2 ≤ gs.length) (h13 : gs.length ≤ 13) (hp : gs.Perm (NDs.filter (alive F)))
    (ret : ∀ D c h' tvs, Fr g L h' m → News g L h' ((D, listOf (List.toArray tvs) c) :: news) → (∀ q ∈ news, q.1 < D) → AllAt (TupAt h') tvs ((toldRows F).map rowD) → Q (.ref D) { s with heap := h' }) :
    wpAny (model prog w) A (call (.builtin "sorted") [.ref l]) Q E s := by
  have hA0 := hA s.heap F7.keep fun p hp => (N7 p hp).1
  have hdl : dvs.length = gs.length := by simpa using hA0.length
  refine kat_sorted (vs := dvs) F7 N7 ⟨_, hl, rfl, _, rfl⟩ (by lia) (by lia) fun D e1 h8 F8 N8 l8 => ?_
  have A8 := hA h8 F8.keep fun p hp => (N8 p (.tail _ hp)).1
  obtain ⟨fs, t1, t2, t3⟩ := row_firsts A8 fun d hd => by
    obtain ⟨v, -, rfl⟩ := List.mem_map.mp hd
    exact ⟨_, _, rfl⟩
  refine kat_kind (s := { s with heap := h8 }) (T := .type "int") t1 (by lia) (fun f hf => ?_) rfl ?_
  · obtain ⟨n, t, rfl⟩ := t3 f hf
    kas_ty
  · refine sort_wp (n := dvs.length) (k := fun i => idx (gs.getD i [])) ⟨fun i j C hi hj ne hC => ?_, fun i j hi hj e => ?_⟩ (by lia) (fun q hq ha => ?_)
    · have m1 : gs.getD i [] ∈ NDs := hgN _ (by rw [List.getD_eq_getElem?_getD, List.getElem?_eq_getElem (by (clear h2 h13 hj ne; lia))]; exact List.getElem_mem _)
      have m2 : gs.getD j [] ∈ NDs := hgN _ (by rw [List.getD_eq_getElem?_getD, List.getElem?_eq_getElem (by (clear h2 h13 ne; lia))]; exact List.getElem_mem _)
      refine key_lt (s := { s with heap := h8 }) (row_at A8 (by (clear h2 h13 ne; lia))) (row_at A8 (by (clear h2 h13 ne; omega))) rfl ?_
      rw [item_lt m1 m2 fun e => ne (gs_inj hgn (by (clear h2 h13 ne; omega)) (by (clear h2 h13 ne; omega)) e)]
      exact hC
    · have m1 : gs.getD i [] ∈ NDs := hgN _ (by rw [List.getD_eq_getElem?_getD, List.getElem?_eq_getElem (by (clear h2 h13 hj e; omega))]; exact List.getElem_mem _)
      have m2 : gs.getD j [] ∈ NDs := hgN _ (by rw [List.getD_eq_getElem?_getD, List.getElem?_eq_getElem (by (clear h2 h13 e; omega))]; exact List.getElem_mem _)
      exact gs_inj hgn (by (clear h2 h13 e; omega)) (by (clear h2 h13 e; omega)) ((nd_pair _ m1 _ m2).2.2.2.2.1 e)
    · refine KasFin.intro (s := { s with heap := h8 }) F8 N8 (.head fun p hp => Nat.ne_of_lt (l8 p hp)) fun h9 c F9 N9 => ?_
      refine ret D c h9 _ F9 N9 l8 ?_
      have A9 := hA h9 F9.keep fun p hp => (N9 p (.tail _ hp)).1
      rw [hdl] at hq ha
      have e := sorted_gs hp hq ha
      unfold toldRows
      rw [← e, List.map_map, List.map_map]
      exact all_map fun i hi => row_at A9 (List.mem_range.mp (hq.perm.subset hi))
end
section
variable {prog : Program} {w : World} {A : Around} {E : Value → Shared → Prop} {s : Shared} {a b : Addr} {n n2 : Nat} {Q : Value → Shared → Prop}
theorem eqAt_tup {u v : Value} {d : DD} (hx : TupAt s.heap u d) (hy : TupAt s.heap v d) (hu : A.units < cLine) : SeqAt.EqAt A s u v true := by
  obtain ⟨a, us, na, rfl, ga, pa⟩ := hx
  obtain ⟨b, vs, nb, rfl, gb, pb⟩ := hy
  by_cases hab : a = b
  · subst hab; exact SeqAt.EqAt.same _
  · have l1 := pa.length
    have l2 := pb.length
    have z := SeqAt.RcAt.tuples (A := A) (s := s) (items := us.toArray) (items2 := vs.toArray) (e := fun _ => true) ⟨_, ga, rfl, _, rfl⟩ ⟨_, gb, rfl, _, rfl⟩ hu (fun j h1 h2 => by
      have h1 : j < us.length := by simpa using h1
      have h2 : j < vs.length := by simpa using h2
      have z := eqAt_pv (A := A.in1) (s := s) (pa.at j h1 (by (clear hu h2; lia))) (pb.at j h2 (by (clear hu h2; omega))) rfl
      rw [decide_eq_true rfl] at z
      simpa using z)
    rw [show ((List.range (min us.toArray.size vs.toArray.size)).all (fun _ => true) && us.toArray.size == vs.toArray.size) = true by simp [l1, l2]] at z
    exact SeqAt.EqAt.of_refs hab z
theorem ne_rows {vs ws : List Value} {ds : List DD} (ha : s.heap.get? a = some (listOf vs.toArray n)) (hb : s.heap.get? b = some (listOf ws.toArray n2)) (hA : AllAt (TupAt s.heap) vs ds) (hB : AllAt (TupAt s.heap) ws ds) (hu : A.in1.units < cLine) (hu0 : A.units < cLine) (h : Q (.bool false) s) :
    wpAny (model prog w) A (compareOp .NotEq (.ref a) (.ref b)) Q E s := by
  have l1 := hA.length
  have l2 := hB.length
  refine SeqAt.RcNeAt.lists (items := vs.toArray) (items2 := ws.toArray) (e := fun _ => true) ⟨_, ha, rfl, _, rfl⟩ ⟨_, hb, rfl, _, rfl⟩ (by rw [List.size_toArray, List.size_toArray, l1, l2]) hu0 (fun j h1 h2 => ?_) prog w E Q ?_
  · have h1 : j < vs.length := by simpa using h1
    have h2 : j < ws.length := by simpa using h2
    obtain ⟨u, eu, tu⟩ := hA.get (i := j) (l1 ▸ h1)
    obtain ⟨v, ev, tv⟩ := hB.get (i := j) (l2 ▸ h2)
    rw [List.getElem?_eq_getElem h1] at eu
    rw [List.getElem?_eq_getElem h2] at ev
    cases eu; cases ev
    exact eqAt_tup (by simpa using tu) (by simpa using tv) hu
  · rw [show (!(List.range vs.toArray.size).all fun _ => true) = false by simp]
    exact h
end

section
variable {w : World} {mg mb : Str → Option Value} {mean : ExcName → Option Value} {dp un : Nat} {gd : Option (List Code)} {fr : List Env} {base : Heap} {s : Shared} {Q E : Value → Shared → Prop}
structure FInv (F : List Itm) (i k : Nat) (gs : List (List Str)) : Prop where
  nd : gs.Nodup
  src : ∀ v ∈ gs, v ∈ NDs ∧ alive F v = true
  all : ∀ j, j < i → ∀ p, F[j]? = some p → ∀ n, n ≤ p.1.length → p.1.take n ∈ gs
  cur : ∀ p, F[i]? = some p → ∀ n, n < k → p.1.take n ∈ gs
  len : gs.length ≤ 4 * i + k
theorem nd_take : ∀ v ∈ NDs, ∀ n ∈ List.range 4, v.take n ∈ NDs ∧ under (v.take n) v = true := by decide +kernel
theorem FInv.start (F : List Itm) : FInv F 0 0 [] := ⟨.nil, fun _ h => no_mem h, fun _ h => absurd h (Nat.not_lt_zero _), fun _ _ _ h => absurd h (Nat.not_lt_zero _), Nat.le_refl _⟩
theorem FInv.step {F : List Itm} {i k : Nat} {gs : List (List Str)} {p : Itm} (x : FInv F i k gs) (hp : F[i]? = some p) (hF : ∀ p ∈ F, p.1 ∈ NDs ∧ 0 < p.2) (hk : k ≤ p.1.length) : FInv F i (k + 1) (if p.1.take k ∈ gs then gs else gs ++ [p.1.take k]) := by
  have hm := List.mem_of_getElem? hp
  have h1 := (hF p hm).1
  have h3 := (nd_one _ h1).2.2.2.1
  have ht := nd_take _ h1 k (List.mem_range.mpr (by lia))
  by_cases e : p.1.take k ∈ gs
  · rw [if_pos e]
    refine ⟨x.nd, x.src, x.all, fun q hq n hn => ?_, Nat.le_succ_of_le x.len⟩
    rw [hp] at hq; cases hq
    by_cases e2 : n = k
    · rw [e2]; exact e
    · exact x.cur p hp n (by (clear hk h3 ht; lia))
  · rw [if_neg e]
    refine ⟨List.nodup_append.mpr ⟨x.nd, by simp, fun a ha b hb q => e ?_⟩, fun v hv => ?_, fun j hj q hq n hn => List.mem_append_left _ (x.all j hj q hq n hn), fun q hq n hn => ?_, ?_⟩
    · rw [List.mem_singleton.mp hb] at q
      exact q ▸ ha
    · rcases List.mem_append.mp hv with hv | hv
      · exact x.src v hv
      · rw [List.mem_singleton.mp hv]
        exact ⟨ht.1, List.any_eq_true.mpr ⟨p, hm, ht.2⟩⟩
    · rw [hp] at hq; cases hq
      by_cases e2 : n = k
      · rw [e2]; exact List.mem_append_right _ (.head _)
      · exact List.mem_append_left _ (x.cur p hp n (by (clear hk h3 ht; omega)))
    · have := x.len
      rw [List.length_append, List.length_singleton]; (clear hk h3 ht; lia)
theorem FInv.next {F : List Itm} {i : Nat} {gs : List (List Str)} {p : Itm} (x : FInv F i (p.1.length + 1) gs) (hp : F[i]? = some p) (hF : ∀ p ∈ F, p.1 ∈ NDs ∧ 0 < p.2) : FInv F (i + 1) 0 gs := by
  have h3 := (nd_one _ (hF p (List.mem_of_getElem? hp)).1).2.2.2.1
  refine ⟨x.nd, x.src, fun j hj q hq n hn => ?_, fun _ _ _ h => absurd h (Nat.not_lt_zero _), by have := x.len; lia⟩
  by_cases e : j = i
  · subst e
    rw [hp] at hq; cases hq
    exact x.cur p hp n (by (clear h3 hj; lia))
  · exact x.all j (by (clear h3 hn; omega)) q hq n hn
theorem FInv.perm {F : List Itm} {gs : List (List Str)} (x : FInv F F.length 0 gs) : gs.Perm (NDs.filter (alive F)) := by
  refine (List.perm_ext_iff_of_nodup x.nd (List.Pairwise.filter _ (show NDs.Nodup by decide +kernel))).mpr fun v => ⟨fun h => List.mem_filter.mpr (x.src v h), fun h => ?_⟩
  obtain ⟨p, hp, e⟩ := List.any_eq_true.mp (List.mem_filter.mp h).2
  obtain ⟨j, hj, rfl⟩ := List.getElem_of_mem hp
  have e' : F[j].1.take v.length = v := of_decide_eq_true e
  have hl : v.length ≤ F[j].1.length := by
    have := congrArg List.length e'
    rw [List.length_take] at this
    lia
  rw [← e']
  exact x.all j hj _ (List.getElem?_eq_getElem hj) _ hl
theorem wt_snoc {F : List Itm} {i : Nat} {p : Itm} {v : List Str} (h : F[i]? = some p) : wt (F.take (i + 1)) v = wt (F.take i) v + (if under v p.1 = true then p.2 else 0) := by
  rw [take_succ_at h]
  simp [wt, List.sum_append]
theorem nd_join : ∀ v ∈ NDs, JoinOk (Str.ofString "/") v = true := by decide +kernel
theorem nd_jlen : ∀ v ∈ NDs, (Txt.join (Str.ofString "/") v).length ≤ 5 := by decide +kernel
theorem files_kept {h g : Heap} {fvs : List Value} {fl : Addr} {kf : Nat} {F : List Itm} (hA : AllAt (NmAt h) fvs (F.map fileN)) (KP : Keep [fl] h g) (hp : h.get? fl = some (listOf fvs.toArray kf)) : AllAt (NmAt g) fvs (F.map fileN) := by
  cases fvs with
  | nil => cases hd : F.map fileN with
    | nil => exact .nil
    | cons _ _ => rw [hd] at hA; cases hA
  | cons v0 vr =>
    have hv0 : ∃ T, v0 = .ref T := by
      cases hd : F.map fileN with
      | nil => rw [hd] at hA; cases hA
      | cons _ _ =>
        rw [hd] at hA
        cases hA with
        | cons z _ => obtain ⟨T, _, _, _, _, _, _, e, -⟩ := z; exact ⟨T, e⟩
    obtain ⟨T0, rfl⟩ := hv0
    refine hA.mono fun v d z => ?_
    obtain ⟨T, a, t, vs, k, n, ds, e, ed, hT, ha, pa⟩ := z
    refine ⟨T, a, t, vs, k, n, ds, e, ed, ?_, KP _ _ (fun q => ?_) ha, pa⟩
    · obtain ⟨o, z, c, r⟩ := hT
      refine ⟨o, KP _ _ (fun q => ?_) z, c, r⟩
      rw [List.mem_singleton.mp q, hp] at z
      cases z
      simp at c
    · rw [List.mem_singleton.mp q, hp] at ha
      have e9 : (Value.ref T0 :: vr) = vs := by
        have := congrArg Obj.data (Option.some.inj ha)
        simp at this
        exact this.1
      rw [← e9] at pa
      cases pa with
      | cons z _ => cases z
noncomputable abbrev dueD (F : List Itm) (v : List Str) : DD := rowD (itemR (v, wt F v))
noncomputable abbrev dueJ1 (s : Shared) (g : Heap) (FD fl C : Addr) (oC : Obj) (F : List Itm) (i : Nat) (g' : Array GenState) (m : Str → Option Value) (news : List (Addr × Obj)) : Prop := g' = s.gens ∧ ∃ u gvs kg gs ex, m = KF [(Str.ofString "folders", .ref FD), (Str.ofString "files", .ref fl)] u ∧ news = (FD, listOf gvs.toArray kg) :: (C, oC) :: ex ∧ (∀ p ∈ ex, p.2.cls = .type "list" ∧ @LT.lt Nat _ FD p.1) ∧ (∀ h', (∀ b ob, g.get? b = some ob → h'.get? b = some ob) → (∀ p ∈ ex, h'.get? p.1 = some p.2) → AllAt (LsAt h') gvs (gs.map nameD)) ∧ FInv F i 0 gs
noncomputable abbrev dueJ2 (s : Shared) (g : Heap) (FD fl C : Addr) (oC : Obj) (F : List Itm) (na I : Addr) (oI : Obj) (fvs : List Value) (kf i k : Nat) (g' : Array GenState) (m : Str → Option Value) (news : List (Addr × Obj)) : Prop := g' = s.gens ∧ ∃ u gvs kg gs ex, m = KF [(Str.ofString "names", .ref na), (Str.ofString "folders", .ref FD), (Str.ofString "files", .ref fl)] u ∧ news = (I, oI) :: (fl, listOf fvs.toArray kf) :: (FD, listOf gvs.toArray kg) :: (C, oC) :: ex ∧ (∀ p ∈ ex, p.2.cls = .type "list" ∧ @LT.lt Nat _ FD p.1) ∧ (∀ h', (∀ b ob, g.get? b = some ob → h'.get? b = some ob) → (∀ p ∈ ex, h'.get? p.1 = some p.2) → AllAt (LsAt h') gvs (gs.map nameD)) ∧ FInv F i k gs
noncomputable abbrev dueJ3 (s : Shared) (g : Heap) (FD fl C DD : Addr) (F : List Itm) (fvs : List Value) (kf : Nat) (gvs : List Value) (gs : List (List Str)) (j : Nat) (g' : Array GenState) (m : Str → Option Value) (news : List (Addr × Obj)) : Prop := g' = s.gens ∧ ∃ u dvs kd oC' v0 ex9, m = KF [(Str.ofString "due", .ref DD), (Str.ofString "folders", .ref FD), (Str.ofString "files", .ref fl)] u ∧ news = (DD, listOf dvs.toArray kd) :: (fl, listOf fvs.toArray kf) :: (C, oC') :: ex9 ∧ oC'.data = .cell v0 ∧ (∀ p ∈ ex9, p.2.cls ≠ .type "list_iterator" ∧ @LT.lt Nat _ C p.1 ∧ @Ne Nat p.1 DD) ∧ (∀ h', (∀ b ob, g.get? b = some ob → h'.get? b = some ob) → (∀ p ∈ ex9, h'.get? p.1 = some p.2) → AllAt (LsAt h') gvs (gs.map nameD) ∧ AllAt (TupAt h') dvs ((gs.take j).map (dueD F)))
theorem due_spec
  {fl : Addr} {fvs : List Value} {kf : Nat} {F : List Itm}
  (X : (Mine.heapK w.params).In base) (T : Top topProg GL mean mg mb base) (hS : base.StaysIn s.heap)
  (hp : s.heap.get? fl = some (listOf fvs.toArray kf)) (hbp : base.get? fl = none) (hA : AllAt (NmAt s.heap) fvs (F.map fileN))
  (hF : ∀ p ∈ F, p.1 ∈ NDs ∧ 0 < p.2) (hn : F.length ≤ 20) (h2' : 2 ≤ (NDs.filter (alive F)).length)
  (hdp : dp < 600) (hu : un < 700)
  (ret : ∀ h' tk' D tvs kt, Keep [] s.heap h' → s.heap.get? D = none → h'.get? D = some (listOf tvs.toArray kt) → AllAt (TupAt h') tvs ((toldRows F).map rowD) → Q (.ref D) { s with heap := h', toks := tk' }) :
  wpAny (model PySem.Challenge.rw_ik0220_02.row.prog w) (amb dp un gd fr) (call (.ref 349) [.ref fl]) Q E s := by
  revert X; k_fill; intro X
  refine wpAny_call ?_
  k_dflt (refine' enterC (Str.ofString "folder") [(Str.ofString "files", .ref fl)] [(fl, listOf fvs.toArray kf)] ?kX ?kT hS ?kD ?kho ?khcd ?kroom ?kb ?kl ?kr ?_ ?c1 ?c2 ?c3 ?c4; (
  (case kX => assumption); (case kT => assumption); (case kho => k_is); (case khcd => k_is); (case kb => first | exact BindsTo.of_eq rfl | exact binds_K (by k_in) rfl (by k_is) rfl rfl rfl);
  (case kl => exact locs rfl); (case kr => exact rfl); (case c1 => exact rfl); (case c2 => exact rfl); (case c3 => exact rfl); (case c4 => first | decide | exact fun _ => rfl); (case kroom => first | exact rm0 hdp rfl | (simp only [recursionLimit]; omega))); (case kD => exact fun q hq => by rw [List.mem_singleton.mp hq]; exact ⟨hp, hbp⟩))
  intro g L C oC h1 fr' tk F0 N hoC X1 T1 KP LTs LC
  refine (let aA := _; let eN := _; let qk := _; let ek := _; (?_ : wpAny _ aA (execs _ eN) qk ek _))
  have c0 : @LT.lt Nat _ fl C := Nat.lt_trans (LTs _ _ hp) LC
  have hvl : fvs.length = F.length := by simpa using hA.length
  have hAg : AllAt (NmAt g) fvs (F.map fileN) := files_kept hA KP hp
  have hrefs : ∀ v ∈ fvs, ∃ T, v = .ref T := fun v hv => by
    obtain ⟨i, hi⟩ := List.getElem?_of_mem hv
    obtain ⟨d, hd, T, _, _, _, _, _, _, e, -⟩ := hAg.getV hi
    exact ⟨T, e⟩
  (repeat' (first | (fail_if_success with_reducible refine Nf.go (by constructor) ?_); (fail_if_success fail_if_success with_reducible refine Fd.go (by constructor) ?_; k_fold); refine (let qk := _; let ek := _; (?_ : wpAny _ _ _ qk ek _)) | (fail_if_success fail_if_success k_unfold); (first | with_reducible refine (?_ : wpAny _ _ _ _ _ _) | k_unfold); (try dsimp only); try clear qk ek | (fail_if_success with_reducible refine Stop.go (by constructor) ?_); first | walk1 | dsimp only; walk1))
  rename_i FD _ lFD h2 F2 N2
  have c1 : @LT.lt Nat _ C FD := lFD.1
  refine for_listT g L fl fvs kf (dueJ1 s g FD fl C oC F) rfl (toKF [(Str.ofString "folders", .ref FD), (Str.ofString "files", .ref fl)] F2 ⟨rfl, rfl, trivial⟩) (Mine.News.sub N2 (by ((try simp only [List.cons_append, List.nil_append]); repeat' (first | exact .head _ | refine .tail _ ?_ | exact List.forall_mem_nil _ | refine List.forall_mem_cons.mpr ⟨?_, ?_⟩ | assumption | intro _ _)))) ⟨rfl, _, [], 0, [], [], rfl, rfl, (fun _ h => no_mem h), (fun _ _ _ => .nil), FInv.start F⟩ ?_ hrefs ?_ ?_ ?_
  · rintro i g' m news ⟨-, u, gvs, kg, gs, ex, -, rfl, cx, -⟩ p hp
    rcases List.mem_cons.mp hp with rfl | hp
    · exact .inl (by simp)
    · rcases List.mem_cons.mp hp with rfl | hp
      · exact .inr ⟨_, .tail _ (.head _)⟩
      · exact .inl (by rw [(cx p hp).1]; simp)
  · (repeat' (first | (fail_if_success with_reducible refine Nf.go (by constructor) ?_); (fail_if_success fail_if_success with_reducible refine Fd.go (by constructor) ?_; k_fold); refine (let qk := _; let ek := _; (?_ : wpAny _ _ _ qk ek _)) | (fail_if_success fail_if_success k_unfold); (first | with_reducible refine (?_ : wpAny _ _ _ _ _ _) | k_unfold); (try dsimp only); try clear qk ek | (fail_if_success with_reducible refine Stop.go (by constructor) ?_); first | walk1 | dsimp only; walk1))
    try exact ⟨rfl, rfl⟩
  · rintro i v h' g' tk9 m news oI hv ⟨rfl, u, gvs, kg, gs, ex, rfl, rfl, cx, hex, hI⟩ F7 N7 lI
    have hi : i < F.length := by rw [← hvl]; exact (List.getElem?_eq_some_iff.mp hv).1
    have hFi := List.getElem?_eq_getElem hi
    obtain ⟨v9, e9, t9⟩ := hAg.get (i := i) (by simpa using hi)
    rw [hv] at e9
    cases e9
    obtain ⟨T0, na, t0, nvs, kn, n0, ds0, rfl, e0, hT0, hna, hP0⟩ := t9
    rw [List.getElem_map] at e0
    obtain ⟨e01, rfl⟩ := List.cons.inj e0
    cases e01
    have hS0 := hP0.strs
    have hsl := hS0.length
    have hq1 := hF F[i] (List.getElem_mem hi)
    have hq3 := (nd_one _ hq1.1).2.2.2.1
    clear F2 N2
    refine unpackN_ F7 N7 (isTup_at hT0 F7.keep) rfl rfl rfl fun h8 F8 N8 => ?_
    clear F7 N7
    (repeat' (first | (fail_if_success with_reducible refine Nf.go (by constructor) ?_); (fail_if_success fail_if_success with_reducible refine Fd.go (by constructor) ?_; k_fold); refine (let qk := _; let ek := _; (?_ : wpAny _ _ _ qk ek _)) | (fail_if_success fail_if_success k_unfold); (first | with_reducible refine (?_ : wpAny _ _ _ _ _ _) | k_unfold); (try dsimp only); try clear qk ek | (fail_if_success with_reducible refine Stop.go (by constructor) ?_); first | walk1 | dsimp only; walk1))
    rename_i h9 h10 F10 N10
    have c2 : @LT.lt Nat _ FD h2.objs.size := lI _ (.tail _ (.head _))
    refine for_RC g L 0 (F[i].1.length + 1) ((h2.objs.size, oI) :: (fl, listOf fvs.toArray kf) :: (FD, listOf gvs.toArray kg) :: (C, oC) :: ex) (dueJ2 s g FD fl C oC F na h2.objs.size oI fvs kf i) rfl (by (clear hn h2' hdp hu c0 lFD c1 c2; lia)) ?_ ?_ ?_ ?_
    · (repeat' (first | (fail_if_success with_reducible refine Nf.go (by constructor) ?_); (fail_if_success fail_if_success with_reducible refine Fd.go (by constructor) ?_; k_fold); refine (let qk := _; let ek := _; (?_ : wpAny _ _ _ qk ek _)) | (fail_if_success fail_if_success k_unfold); (first | with_reducible refine (?_ : wpAny _ _ _ _ _ _) | k_unfold); (try dsimp only); try clear qk ek | (fail_if_success with_reducible refine Stop.go (by constructor) ?_); first | walk1 | dsimp only; walk1))
      refine len_li (F10.keep _ _ hna) (by (clear hn h2' hdp hu c0 lFD c1 c2; omega)) fun t5 tk5 => ?_
      (repeat' (first | (fail_if_success with_reducible refine Nf.go (by constructor) ?_); (fail_if_success fail_if_success with_reducible refine Fd.go (by constructor) ?_; k_fold); refine (let qk := _; let ek := _; (?_ : wpAny _ _ _ qk ek _)) | (fail_if_success fail_if_success k_unfold); (first | with_reducible refine (?_ : wpAny _ _ _ _ _ _) | k_unfold); (try dsimp only); try clear qk ek | (fail_if_success with_reducible refine Stop.go (by constructor) ?_); first | walk1 | dsimp only; walk1))
      rename_i hq tq u1 u2 u3 hR FR NR _
      exact RGo.mk hR rfl (by rw [hsl]; (clear hn h2' hdp hu c0 lFD c1 hsl hq1 hq3 c2; lia)) (toKF [(Str.ofString "names", .ref na), (Str.ofString "folders", .ref FD), (Str.ofString "files", .ref fl)] FR ⟨rfl, rfl, rfl, trivial⟩) NR ⟨rfl, _, gvs, kg, gs, ex, rfl, rfl, cx, hex, hI⟩
    · rintro k g' m news ⟨-, u, gvs, kg, gs, ex, -, rfl, cx, -⟩ p hp
      rcases List.mem_cons.mp hp with rfl | hp
      · exact .inr ⟨_, .head _⟩
      · rcases List.mem_cons.mp hp with rfl | hp
        · exact .inl (by simp)
        · rcases List.mem_cons.mp hp with rfl | hp
          · exact .inl (by simp)
          · rcases List.mem_cons.mp hp with rfl | hp
            · exact .inr ⟨_, .tail _ (.tail _ (.tail _ (.head _)))⟩
            · exact .inl (by rw [(cx p hp).1]; simp)
    · rintro k ti h' g' tk9 m news I oI2 hk ⟨rfl, u, gvs, kg, gs, ex, rfl, rfl, cx, hex, hI⟩ F7 N7 lI2
      clear F10 N10
      (repeat' (first | (fail_if_success with_reducible refine Nf.go (by constructor) ?_); (fail_if_success fail_if_success with_reducible refine Fd.go (by constructor) ?_; k_fold); refine (let qk := _; let ek := _; (?_ : wpAny _ _ _ qk ek _)) | (fail_if_success fail_if_success k_unfold); (first | with_reducible refine (?_ : wpAny _ _ _ _ _ _) | k_unfold); (try dsimp only); try clear qk ek | (fail_if_success with_reducible refine Stop.go (by constructor) ?_); first | walk1 | dsimp only; walk1))
      rename Heap => h5; rename Fr _ _ _ _ => F5; rename News _ _ _ _ => N5
      refine slice_new (by with_unfolding_all rfl) (lo := none) (hi := some ((0 + k : Nat) : Int)) F5 N5 ⟨_, F5.keep _ _ hna, rfl, _, rfl⟩ .none (.int _ _) (by rw [List.size_toArray, hsl, sizeLine_eq]; (clear hn h2' hdp hu c0 lFD c1 c2 hk; lia)) fun q3 sl3 h6 F6 N6 l6 => ?_
      rw [slicePick_upto nvs.toArray (0 + k) (by rw [List.size_toArray]; (clear hn h2' hdp hu c0 lFD c1 hq1 hq3 c2; lia)), List.toList_toArray, Nat.zero_add] at N6
      clear F5 N5
      (repeat' (first | (fail_if_success with_reducible refine Nf.go (by constructor) ?_); (fail_if_success fail_if_success with_reducible refine Fd.go (by constructor) ?_; k_fold); refine (let qk := _; let ek := _; (?_ : wpAny _ _ _ qk ek _)) | (fail_if_success fail_if_success k_unfold); (first | with_reducible refine (?_ : wpAny _ _ _ _ _ _) | k_unfold); (try dsimp only); try clear qk ek | (fail_if_success with_reducible refine Stop.go (by constructor) ?_); first | walk1 | dsimp only; walk1))
      have c3 : @LT.lt Nat _ h2.objs.size I := lI2 _ (.head _)
      have c4 : @LT.lt Nat _ FD q3 := l6 _ (.tail _ (.tail _ (.tail _ (.head _))))
      have hxm : ∀ p ∈ ex, p ∈ (q3, listOf (nvs.take k).toArray 0) :: (sl3, sliceO Value.none (.int ((k : Nat) : Int) ti)) :: (I, oI2) :: (h2.objs.size, oI) :: (fl, listOf fvs.toArray kf) :: (FD, listOf gvs.toArray kg) :: (C, oC) :: ex := fun p hp => .tail _ (.tail _ (.tail _ (.tail _ (.tail _ (.tail _ (.tail _ hp))))))
      have A6 := hex h6 F6.keep fun p hp => (N6 p (hxm p hp)).1
      have hgl := A6.length
      have hgl2 := hI.len
      rw [List.length_map] at hgl
      refine notin_ls (u := F[i].1.take k) (N6 _ (.tail _ (.tail _ (.tail _ (.tail _ (.tail _ (.head _))))))).1 A6 ⟨q3, _, _, rfl, (N6 _ (.head _)).1, (hS0.take (n := k)).pvs⟩ (by show un + 3 + 1 < _; simp only [cLine]; (clear hn h2' hdp c0 lFD c1 hsl hq1 hq3 c2 hk c3 c4 hgl hgl2; lia)) ?_
      have hst := hI.step hFi hF (by (clear hn h2' hdp hu c0 lFD c1 hsl hq1 hq3 c2 c3 c4 hgl hgl2; lia))
      by_cases e : F[i].1.take k ∈ gs
      · rw [decide_eq_true e]
        rw [if_pos e] at hst
        (repeat' (first | (fail_if_success with_reducible refine Nf.go (by constructor) ?_); (fail_if_success fail_if_success with_reducible refine Fd.go (by constructor) ?_; k_fold); refine (let qk := _; let ek := _; (?_ : wpAny _ _ _ qk ek _)) | (fail_if_success fail_if_success k_unfold); (first | with_reducible refine (?_ : wpAny _ _ _ _ _ _) | k_unfold); (try dsimp only); try clear qk ek | (fail_if_success with_reducible refine Stop.go (by constructor) ?_); first | walk1 | dsimp only; walk1))
        exact LpP.next (news := (h2.objs.size, oI) :: (fl, listOf fvs.toArray kf) :: (FD, listOf gvs.toArray kg) :: (C, oC) :: ex) (toKF [(Str.ofString "names", .ref na), (Str.ofString "folders", .ref FD), (Str.ofString "files", .ref fl)] F6 ⟨rfl, rfl, rfl, trivial⟩) (fun p hp => N6 p (.tail _ (.tail _ hp))) ⟨rfl, _, gvs, kg, gs, ex, rfl, rfl, cx, hex, hst⟩
      · rw [decide_eq_false e]
        rw [if_neg e] at hst
        replace N6 : News g L h6 ((I, oI2) :: (h2.objs.size, oI) :: (fl, listOf fvs.toArray kf) :: (FD, listOf gvs.toArray kg) :: (C, oC) :: ex) := fun p hp => N6 p (.tail _ (.tail _ hp))
        clear hxm A6 l6
        (repeat' (first | (fail_if_success with_reducible refine Nf.go (by constructor) ?_); (fail_if_success fail_if_success with_reducible refine Fd.go (by constructor) ?_; k_fold); refine (let qk := _; let ek := _; (?_ : wpAny _ _ _ qk ek _)) | (fail_if_success fail_if_success k_unfold); (first | with_reducible refine (?_ : wpAny _ _ _ _ _ _) | k_unfold); (try dsimp only); try clear qk ek | (fail_if_success with_reducible refine Stop.go (by constructor) ?_); first | walk1 | dsimp only; walk1))
        refine slice_new (by with_unfolding_all rfl) (lo := none) (hi := some ((0 + k : Nat) : Int)) F6 N6 ⟨_, F6.keep _ _ hna, rfl, _, rfl⟩ .none (.int _ _) (by rw [List.size_toArray, hsl, sizeLine_eq]; (clear hn h2' hdp hu c0 lFD c1 c2 hk c3 c4 hgl hgl2; omega)) fun q4 sl4 h7 F7 N7 l7 => ?_
        rw [slicePick_upto nvs.toArray (0 + k) (by rw [List.size_toArray]; (clear hn h2' hdp hu c0 lFD c1 hq1 hq3 c2 c3 c4 hgl hgl2; omega)), List.toList_toArray, Nat.zero_add] at N7
        replace N7 : News g L h7 ((q4, listOf (nvs.take k).toArray 0) :: (I, oI2) :: (h2.objs.size, oI) :: (fl, listOf fvs.toArray kf) :: (FD, listOf gvs.toArray kg) :: (C, oC) :: ex) := fun p hp => (List.mem_cons.mp hp).elim (fun q => q ▸ N7 _ (.head _)) fun q => N7 p (.tail _ (.tail _ q))
        clear F6 N6
        have c5 : @LT.lt Nat _ FD q4 := l7 _ (.tail _ (.tail _ (.tail _ (.head _))))
        have c6 : @LT.lt Nat _ fl FD := Nat.lt_trans c0 c1
        (repeat' (first | (fail_if_success with_reducible refine Nf.go (by constructor) ?_); (fail_if_success fail_if_success with_reducible refine Fd.go (by constructor) ?_; k_fold); refine (let qk := _; let ek := _; (?_ : wpAny _ _ _ qk ek _)) | (fail_if_success fail_if_success k_unfold); (first | with_reducible refine (?_ : wpAny _ _ _ _ _ _) | k_unfold); (try dsimp only); try clear qk ek | (fail_if_success with_reducible refine Stop.go (by constructor) ?_); first | walk1 | dsimp only; walk1))
        refine append_K (U := Upd.tail (p := (q4, _)) (Nat.ne_of_gt c5) (Upd.tail (p := (I, oI2)) (Nat.ne_of_gt (Nat.lt_trans c2 c3)) (Upd.tail (p := (h2.objs.size, oI)) (Nat.ne_of_gt c2) (Upd.tail (p := (fl, _)) (Nat.ne_of_lt c6) (Upd.head (List.forall_mem_cons.mpr ⟨Nat.ne_of_lt c1, fun p hp => Nat.ne_of_gt (cx p hp).2⟩)))))) F7 N7 (fun h10 F10 N10 => ?_) (by rw [List.size_toArray, sizeLine_eq]; (clear h2' hdp hu c0 lFD c1 c2 c3 c4 c5 c6; lia))
        rw [List.push_toArray] at N10
        (repeat' (first | (fail_if_success with_reducible refine Nf.go (by constructor) ?_); (fail_if_success fail_if_success with_reducible refine Fd.go (by constructor) ?_; k_fold); refine (let qk := _; let ek := _; (?_ : wpAny _ _ _ qk ek _)) | (fail_if_success fail_if_success k_unfold); (first | with_reducible refine (?_ : wpAny _ _ _ _ _ _) | k_unfold); (try dsimp only); try clear qk ek | (fail_if_success with_reducible refine Stop.go (by constructor) ?_); first | walk1 | dsimp only; walk1))
        refine LpP.next (news := (h2.objs.size, oI) :: (fl, listOf fvs.toArray kf) :: (FD, listOf (gvs ++ [Value.ref q4]).toArray (kg + 1)) :: (C, oC) :: (q4, listOf (nvs.take k).toArray 0) :: ex) (toKF [(Str.ofString "names", .ref na), (Str.ofString "folders", .ref FD), (Str.ofString "files", .ref fl)] F10 ⟨rfl, rfl, rfl, trivial⟩) (News.sub N10 (by ((try simp only [List.cons_append, List.nil_append]); repeat' (first | exact .head _ | refine .tail _ ?_ | exact List.forall_mem_nil _ | refine List.forall_mem_cons.mpr ⟨?_, ?_⟩ | assumption | intro _ _)))) ⟨rfl, _, _, _, _, (q4, listOf (nvs.take k).toArray 0) :: ex, rfl, rfl, List.forall_mem_cons.mpr ⟨⟨rfl, c5⟩, cx⟩, fun h' kg kx => ?_, hst⟩
        rw [List.map_append]
        exact (hex h' kg fun p hp => kx p (.tail _ hp)).append (.cons ⟨q4, _, _, rfl, kx _ (.head _), (hS0.take (n := k)).pvs⟩ .nil)
    · rintro h' g' tk9 m news ⟨rfl, u, gvs, kg, gs, ex, rfl, rfl, cx, hex, hI⟩ F7 N7
      clear F10 N10
      (repeat' (first | (fail_if_success with_reducible refine Nf.go (by constructor) ?_); (fail_if_success fail_if_success with_reducible refine Fd.go (by constructor) ?_; k_fold); refine (let qk := _; let ek := _; (?_ : wpAny _ _ _ qk ek _)) | (fail_if_success fail_if_success k_unfold); (first | with_reducible refine (?_ : wpAny _ _ _ _ _ _) | k_unfold); (try dsimp only); try clear qk ek | (fail_if_success with_reducible refine Stop.go (by constructor) ?_); first | walk1 | dsimp only; walk1))
      exact LpP.next (news := (FD, listOf gvs.toArray kg) :: (C, oC) :: ex) (toKF [(Str.ofString "folders", .ref FD), (Str.ofString "files", .ref fl)] F7 ⟨rfl, rfl, trivial⟩) N7 ⟨rfl, _, gvs, kg, gs, ex, rfl, rfl, cx, hex, hI.next hFi hF⟩
  · rintro h' g' tk9 m news ⟨rfl, u, gvs, kg, gs, ex, rfl, rfl, cx, hex, hI⟩ F7 N7
    clear F2 N2
    rw [hvl] at hI
    have hpm := hI.perm
    have hgN : ∀ v ∈ gs, v ∈ NDs := fun v hv => (hI.src v hv).1
    have hgn := hI.nd
    have hgl : gs.length ≤ 13 := by
      have h8 := List.length_filter_le (alive F) NDs
      rw [hpm.length_eq]
      exact Nat.le_trans h8 (Nat.le_of_ble_eq_true rfl)
    have hg2 : 2 ≤ gs.length := by rw [hpm.length_eq]; exact h2'
    clear hI
    (repeat' (first | (fail_if_success with_reducible refine Nf.go (by constructor) ?_); (fail_if_success fail_if_success with_reducible refine Fd.go (by constructor) ?_; k_fold); refine (let qk := _; let ek := _; (?_ : wpAny _ _ _ qk ek _)) | (fail_if_success fail_if_success k_unfold); (first | with_reducible refine (?_ : wpAny _ _ _ _ _ _) | k_unfold); (try dsimp only); try clear qk ek | (fail_if_success with_reducible refine Stop.go (by constructor) ?_); first | walk1 | dsimp only; walk1))
    rename_i DD _ lDD h3 F3 N3
    obtain ⟨d1, d2, d3, d4⟩ := lDD
    refine for_listC g L FD gvs kg (dueJ3 s g FD fl C DD F fvs kf gvs gs) rfl (toKF [(Str.ofString "due", .ref DD), (Str.ofString "folders", .ref FD), (Str.ofString "files", .ref fl)] F3 ⟨rfl, rfl, rfl, trivial⟩) (Mine.News.sub (news' := (FD, listOf gvs.toArray kg) :: (DD, listOf ([] : List Value).toArray 0) :: (fl, listOf fvs.toArray kf) :: (C, oC) :: ex) N3 (by ((try simp only [List.cons_append, List.nil_append]); repeat' (first | exact .head _ | refine .tail _ ?_ | exact List.forall_mem_nil _ | refine List.forall_mem_cons.mpr ⟨?_, ?_⟩ | assumption | intro _ _)))) ⟨rfl, _, [], 0, oC, none, ex, rfl, rfl, hoC, fun p hp => ⟨by rw [(cx p hp).1]; simp, Nat.lt_trans c1 (cx p hp).2, ?_⟩, fun h' k x => ⟨hex h' k x, .nil⟩⟩ ?_ ?_ ?_ ?_
    · exact Nat.ne_of_lt (kst_ltOf d4 p hp)
    · rintro j g' m news ⟨-, u, dvs, kd, oC', v0, ex9, -, rfl, -, cx9, -⟩ p hp
      rcases List.mem_cons.mp hp with rfl | hp
      · exact .inl (by simp)
      · rcases List.mem_cons.mp hp with rfl | hp
        · exact .inl (by simp)
        · rcases List.mem_cons.mp hp with rfl | hp
          · exact .inr ⟨_, .tail _ (.tail _ (.head _))⟩
          · exact .inl (cx9 p hp).1
    · (repeat' (first | (fail_if_success with_reducible refine Nf.go (by constructor) ?_); (fail_if_success fail_if_success with_reducible refine Fd.go (by constructor) ?_; k_fold); refine (let qk := _; let ek := _; (?_ : wpAny _ _ _ qk ek _)) | (fail_if_success fail_if_success k_unfold); (first | with_reducible refine (?_ : wpAny _ _ _ _ _ _) | k_unfold); (try dsimp only); try clear qk ek | (fail_if_success with_reducible refine Stop.go (by constructor) ?_); first | walk1 | dsimp only; walk1))
      try exact ⟨rfl, rfl⟩
    · rintro j v h' g' tk9 m news oI hv ⟨rfl, u, dvs, kd, oC', v0, ex9, rfl, rfl, hC', cx9, hex9⟩ F7 N7 lI
      clear F3 N3
      have e1 : @LT.lt Nat _ C h3.objs.size := lI _ (.tail _ (.tail _ (.tail _ (.head _))))
      have N8 := Mine.News.sub (news' := (C, oC') :: (h3.objs.size, oI) :: (FD, listOf gvs.toArray kg) :: (DD, listOf dvs.toArray kd) :: (fl, listOf fvs.toArray kf) :: ex9) N7 (by ((try simp only [List.cons_append, List.nil_append]); repeat' (first | exact .head _ | refine .tail _ ?_ | exact List.forall_mem_nil _ | refine List.forall_mem_cons.mpr ⟨?_, ?_⟩ | assumption | intro _ _)))
      refine storeX_C (c := C) (o := oC') F7 N8 rfl (.head (List.forall_mem_cons.mpr ⟨Nat.ne_of_gt e1, List.forall_mem_cons.mpr ⟨Nat.ne_of_gt c1, List.forall_mem_cons.mpr ⟨Nat.ne_of_gt d3, List.forall_mem_cons.mpr ⟨Nat.ne_of_lt c0, fun p hp => Nat.ne_of_gt (cx9 p hp).2.1⟩⟩⟩⟩)) hC' (fun h5 oC2 F5 N5 hC2 => ?_)
      clear F7 N7 N8
      have hj : j < gs.length := by
        have := (hex9 h5 F5.keep fun p hp => (N5 p (.tail _ (.tail _ (.tail _ (.tail _ (.tail _ hp)))))).1).1.length
        rw [List.length_map] at this
        rw [← this]; exact (List.getElem?_eq_some_iff.mp hv).1
      obtain ⟨f, hf⟩ : ∃ f, gs[j]? = some f := ⟨_, List.getElem?_eq_getElem hj⟩
      have hfN := hgN f (List.mem_of_getElem? hf)
      have hf3 := (nd_one f hfN).2.2.2.1
      have hfa : ∀ h', (∀ b ob, g.get? b = some ob → h'.get? b = some ob) → (∀ p ∈ ex9, h'.get? p.1 = some p.2) → LsAt h' v (nameD f) := fun h' k x => by
        obtain ⟨d, hd, z⟩ := (hex9 h' k x).1.getV hv
        rw [List.getElem?_map, hf] at hd
        cases hd
        exact z
      obtain ⟨fa, -, -, rfl, -, -⟩ := hfa h5 F5.keep fun p hp => (N5 p (.tail _ (.tail _ (.tail _ (.tail _ (.tail _ hp)))))).1
      (repeat' (first | (fail_if_success with_reducible refine Nf.go (by constructor) ?_); (fail_if_success fail_if_success with_reducible refine Fd.go (by constructor) ?_; k_fold); refine (let qk := _; let ek := _; (?_ : wpAny _ _ _ qk ek _)) | (fail_if_success fail_if_success k_unfold); (first | with_reducible refine (?_ : wpAny _ _ _ _ _ _) | k_unfold); (try dsimp only); try clear qk ek | (fail_if_success with_reducible refine Stop.go (by constructor) ?_); first | walk1 | dsimp only; walk1))
      refine ListComp_Q (x := Str.ofString "names") (x₂ := Str.ofString "size") (cl := [(Str.ofString "folder", C)]) (fun i ys => ∃ ns, PyProof.Rows.IntsAre ys ns ∧ ns.sum = wt (F.take i) f) F5 N5 (.tail _ (.tail _ (.tail _ (.tail _ (.head _))))) (by (clear h2' hdp hu c0 lFD c1 hgl hg2 d1 d2 d3 e1 hj hf3; omega)) ⟨[], .nil, rfl⟩ (fun v hv => ?_) (by with_unfolding_all rfl) (by decide) (by with_unfolding_all rfl) (by decide) (by with_unfolding_all rfl) (by with_unfolding_all rfl) (by decide) ?_ ?_ ?_ (hs := fun _ => by with_unfolding_all rfl)
      · obtain ⟨i, hi⟩ := List.getElem?_of_mem hv
        obtain ⟨d, hd, T, a, t, _, _, n, _, e, _, hT, -⟩ := hAg.getV hi
        exact ⟨T, _, _, e, hT⟩
      · (repeat' (first | (fail_if_success with_reducible refine Nf.go (by constructor) ?_); (fail_if_success fail_if_success with_reducible refine Fd.go (by constructor) ?_; k_fold); refine (let qk := _; let ek := _; (?_ : wpAny _ _ _ qk ek _)) | (fail_if_success fail_if_success k_unfold); (first | with_reducible refine (?_ : wpAny _ _ _ _ _ _) | k_unfold); (try dsimp only); try clear qk ek | (fail_if_success with_reducible refine Stop.go (by constructor) ?_); first | walk1 | dsimp only; walk1))
        try exact ⟨rfl, rfl⟩
      · rintro g9 i T0 a b ys I oI9 C9 oC9 D9 m₂ h tk E' hvi hTT hC9 hx1 hx2 F9 N9 off ne ⟨ns, hys, hsum⟩
        obtain ⟨p, hpi, na, t0, nvs, kn, hT2, hna, hS0⟩ : ∃ p, F[i]? = some p ∧ ∃ na t0 nvs kn, IsTup g T0 #[.ref na, .int p.2 t0] ∧ g.get? na = some (listOf nvs.toArray kn) ∧ StrsAre nvs p.1 := by
          obtain ⟨d, hd, T, na, t0, nvs, kn, n0, ds0, e0, e1, hT2, hna, hP0⟩ := hAg.getV hvi
          cases e0
          rw [List.getElem?_map] at hd
          cases hp9 : F[i]? with
          | none => rw [hp9] at hd; cases hd
          | some p =>
            rw [hp9] at hd
            obtain ⟨e2, rfl⟩ := List.cons.inj ((Option.some.inj hd).trans e1)
            cases e2
            exact ⟨p, rfl, na, t0, nvs, kn, hT2, hna, hP0.strs⟩
        obtain ⟨rfl, rfl⟩ : a = .ref na ∧ b = .int p.2 t0 := by
          obtain ⟨o1, z1, -, n1, y1⟩ := hTT
          obtain ⟨o2, z2, -, n2, y2⟩ := hT2
          rw [z1] at z2; cases z2
          rw [y1] at y2
          cases y2
          exact ⟨rfl, rfl⟩
        have hq3 := (nd_one _ (hF p (List.mem_of_getElem? hpi)).1).2.2.2.1
        have hsl := hS0.length
        obtain ⟨_, fvs9, kf9, e9, gf9, pf9⟩ := hfa h F9.keep fun p hp => (N9 p (.tail _ (.tail _ (.tail _ (.tail _ (.tail _ (.tail _ (.tail _ (.tail _ hp))))))))).1
        cases e9
        have hl9 := pf9.length
        rw [List.length_map] at hl9
        clear hTT hA F5 N5
        (repeat' (first | (fail_if_success with_reducible refine Nf.go (by constructor) ?_); (fail_if_success fail_if_success with_reducible refine Fd.go (by constructor) ?_; k_fold); refine (let qk := _; let ek := _; (?_ : wpAny _ _ _ qk ek _)) | (fail_if_success fail_if_success k_unfold); (first | with_reducible refine (?_ : wpAny _ _ _ _ _ _) | k_unfold); (try dsimp only); try clear qk ek | (fail_if_success with_reducible refine Stop.go (by constructor) ?_); first | walk1 | dsimp only; walk1))
        refine len_li gf9 (by (clear hn h2' hdp hu c0 hvl lFD c1 hgl hg2 d1 d2 d3 e1 hj ne hsum hq3 hsl; omega)) fun t5 tk5 => ?_
        (repeat' (first | (fail_if_success with_reducible refine Nf.go (by constructor) ?_); (fail_if_success fail_if_success with_reducible refine Fd.go (by constructor) ?_; k_fold); refine (let qk := _; let ek := _; (?_ : wpAny _ _ _ qk ek _)) | (fail_if_success fail_if_success k_unfold); (first | with_reducible refine (?_ : wpAny _ _ _ _ _ _) | k_unfold); (try dsimp only); try clear qk ek | (fail_if_success with_reducible refine Stop.go (by constructor) ?_); first | walk1 | dsimp only; walk1))
        refine slice_new (by with_unfolding_all rfl) (lo := none) (hi := some ((fvs9.length : Nat) : Int)) F9 N9 ⟨_, F9.keep _ _ hna, rfl, _, rfl⟩ .none (.int _ _) (by rw [List.size_toArray, hsl, sizeLine_eq]; (clear hn h2' hdp hu c0 hvl lFD c1 hgl hg2 d1 d2 d3 e1 hj hf3 ne hsum hl9; lia)) fun q3 sl3 h6 F6 N6 l6 => ?_
        rw [slicePick_upto' nvs.toArray fvs9.length, List.toList_toArray, hl9] at N6
        replace N6 : News g L h6 ((q3, listOf (nvs.take f.length).toArray 0) :: (I, oI9) :: (C9, oC9) :: (D9, LCg.lst ys) :: (C, oC2) :: (h3.objs.size, oI) :: (FD, listOf gvs.toArray kg) :: (DD, listOf dvs.toArray kd) :: (fl, listOf fvs.toArray kf) :: ex9) := fun p hp => (List.mem_cons.mp hp).elim (fun q => q ▸ N6 _ (.head _)) fun q => N6 p (.tail _ (.tail _ q))
        clear F9 N9 l6 gf9 pf9 hl9
        (repeat' (first | (fail_if_success with_reducible refine Nf.go (by constructor) ?_); (fail_if_success fail_if_success with_reducible refine Fd.go (by constructor) ?_; k_fold); refine (let qk := _; let ek := _; (?_ : wpAny _ _ _ qk ek _)) | (fail_if_success fail_if_success k_unfold); (first | with_reducible refine (?_ : wpAny _ _ _ _ _ _) | k_unfold); (try dsimp only); try clear qk ek | (fail_if_success with_reducible refine Stop.go (by constructor) ?_); first | walk1 | dsimp only; walk1))
        obtain ⟨_, fvs8, kf8, e8, gf8, pf8⟩ := hfa h6 F6.keep fun p hp => (N6 p (.tail _ (.tail _ (.tail _ (.tail _ (.tail _ (.tail _ (.tail _ (.tail _ (.tail _ hp)))))))))).1
        cases e8
        refine rc_ls (N6 _ (.head _)).1 gf8 (hS0.take (n := f.length)).pvs pf8 (by show un + 3 < _; simp only [cLine]; omega) _ _ _ _ ?_
        by_cases e : under f p.1 = true
        · have e2 : decide (p.1.take f.length = f) = true := e
          rw [e2]
          (repeat' (first | (fail_if_success with_reducible refine Nf.go (by constructor) ?_); (fail_if_success fail_if_success with_reducible refine Fd.go (by constructor) ?_; k_fold); refine (let qk := _; let ek := _; (?_ : wpAny _ _ _ qk ek _)) | (fail_if_success fail_if_success k_unfold); (first | with_reducible refine (?_ : wpAny _ _ _ _ _ _) | k_unfold); (try dsimp only); try clear qk ek | (fail_if_success with_reducible refine Stop.go (by constructor) ?_); first | walk1 | dsimp only; walk1))
          refine WhlIf.yes rfl ?_
          (repeat' (first | (fail_if_success with_reducible refine Nf.go (by constructor) ?_); (fail_if_success fail_if_success with_reducible refine Fd.go (by constructor) ?_; k_fold); refine (let qk := _; let ek := _; (?_ : wpAny _ _ _ qk ek _)) | (fail_if_success fail_if_success k_unfold); (first | with_reducible refine (?_ : wpAny _ _ _ _ _ _) | k_unfold); (try dsimp only); try clear qk ek | (fail_if_success with_reducible refine Stop.go (by constructor) ?_); first | walk1 | dsimp only; walk1))
          exact PyProof.Rows.LCg.CompEnd.intro F6 N6 _ (fun p hp => .tail _ hp) off trivial ⟨rfl, _, hys.append (ints_one _ _), by rw [wt_snoc hpi, if_pos e, List.sum_append, hsum]; simp⟩
        · have e2 : decide (p.1.take f.length = f) = false := by simpa [under] using e
          rw [e2]
          (repeat' (first | (fail_if_success with_reducible refine Nf.go (by constructor) ?_); (fail_if_success fail_if_success with_reducible refine Fd.go (by constructor) ?_; k_fold); refine (let qk := _; let ek := _; (?_ : wpAny _ _ _ qk ek _)) | (fail_if_success fail_if_success k_unfold); (first | with_reducible refine (?_ : wpAny _ _ _ _ _ _) | k_unfold); (try dsimp only); try clear qk ek | (fail_if_success with_reducible refine Stop.go (by constructor) ?_); first | walk1 | dsimp only; walk1))
          refine WhlIf.no rfl ?_
          exact PyProof.Rows.LCg.CompEnd.intro F6 N6 _ (fun p hp => .tail _ hp) off trivial ⟨rfl, _, hys, by rw [wt_snoc hpi, if_neg e, hsum]; simp⟩
      · rintro DB h6 tk6 ys ⟨ns, hys, hsum⟩ F6 N6 off6
        rw [hvl, List.take_length] at hsum
        clear F5 N5
        (repeat' (first | (fail_if_success with_reducible refine Nf.go (by constructor) ?_); (fail_if_success fail_if_success with_reducible refine Fd.go (by constructor) ?_; k_fold); refine (let qk := _; let ek := _; (?_ : wpAny _ _ _ qk ek _)) | (fail_if_success fail_if_success k_unfold); (first | with_reducible refine (?_ : wpAny _ _ _ _ _ _) | k_unfold); (try dsimp only); try clear qk ek | (fail_if_success with_reducible refine Stop.go (by constructor) ?_); first | walk1 | dsimp only; walk1))
        refine sumK rfl F6 N6 ⟨_, (N6 _ (.head _)).1, rfl, _, rfl⟩ hys fun h8 tk8 t8 F8 N8 => ?_
        rw [hsum]
        clear F6 N6
        replace N8 : News g L h8 ((C, oC2) :: (h3.objs.size, oI) :: (FD, listOf gvs.toArray kg) :: (DD, listOf dvs.toArray kd) :: (fl, listOf fvs.toArray kf) :: ex9) := fun p hp => N8 p (.tail _ hp)
        (repeat' (first | (fail_if_success with_reducible refine Nf.go (by constructor) ?_); (fail_if_success fail_if_success with_reducible refine Fd.go (by constructor) ?_; k_fold); refine (let qk := _; let ek := _; (?_ : wpAny _ _ _ qk ek _)) | (fail_if_success fail_if_success k_unfold); (first | with_reducible refine (?_ : wpAny _ _ _ _ _ _) | k_unfold); (try dsimp only); try clear qk ek | (fail_if_success with_reducible refine Stop.go (by constructor) ?_); first | walk1 | dsimp only; walk1))
        rename Heap => h9; rename Fr _ _ _ _ => F9; rename News _ _ _ _ => N9
        obtain ⟨_, fvs8, kf8, e8, gf8, pf8⟩ := hfa h9 F9.keep fun p hp => (N9 p (.tail _ (.tail _ (.tail _ (.tail _ (.tail _ hp)))))).1
        cases e8
        have hl9 := pf8.length
        rw [List.length_map] at hl9
        refine len_li gf8 (by (clear hn h2' hdp hu c0 hvl lFD c1 hgl hg2 d1 d2 d3 e1 hj hsum; omega)) fun t5 tk5 => ?_
        rw [hl9]
        (repeat' (first | (fail_if_success with_reducible refine Nf.go (by constructor) ?_); (fail_if_success fail_if_success with_reducible refine Fd.go (by constructor) ?_; k_fold); refine (let qk := _; let ek := _; (?_ : wpAny _ _ _ qk ek _)) | (fail_if_success fail_if_success k_unfold); (first | with_reducible refine (?_ : wpAny _ _ _ _ _ _) | k_unfold); (try dsimp only); try clear qk ek | (fail_if_success with_reducible refine Stop.go (by constructor) ?_); first | walk1 | dsimp only; walk1))
        obtain ⟨l9, el, em⟩ := pf8.strs.values
        refine SC.join (l := l9) ⟨_, gf8, rfl, _, by rw [el]⟩ em (nd_join f hfN) fun t9 k9 => ?_
        have hjl : (Txt.join (Str.ofString "/") f).length ≤ 5 := nd_jlen f hfN
        (repeat' (first | (fail_if_success with_reducible refine Nf.go (by constructor) ?_); (fail_if_success fail_if_success with_reducible refine Fd.go (by constructor) ?_; k_fold); refine (let qk := _; let ek := _; (?_ : wpAny _ _ _ qk ek _)) | (fail_if_success fail_if_success k_unfold); (first | with_reducible refine (?_ : wpAny _ _ _ _ _ _) | k_unfold); (try dsimp only); try clear qk ek | (fail_if_success with_reducible refine Stop.go (by constructor) ?_); first | walk1 | dsimp only; walk1))
        rename_i t6 _ _ TD h10 F10 N10 lTD
        obtain ⟨a1, a2, a3, a4, a5, -⟩ := lTD
        have e2 : @LT.lt Nat _ DD h3.objs.size := lI _ (.tail _ (.head _))
        have A10 := hex9 h10 F10.keep fun p hp => (N10 p (.tail _ (.tail _ (.tail _ (.tail _ (.tail _ (.tail _ hp))))))).1
        have hdl := A10.2.length
        rw [List.length_map, List.length_take] at hdl
        refine append_K (U := Upd.tail (p := (TD, _)) (Nat.ne_of_gt a4) (Upd.tail (p := (C, oC2)) (Nat.ne_of_lt d3) (Upd.tail (p := (h3.objs.size, oI)) (Nat.ne_of_gt e2) (Upd.tail (p := (FD, _)) (Nat.ne_of_lt d2) (Upd.head (List.forall_mem_cons.mpr ⟨Nat.ne_of_lt d1, fun p hp => (cx9 p hp).2.2⟩)))))) F10 N10 (fun h11 F11 N11 => ?_) (by rw [List.size_toArray, sizeLine_eq]; (clear hn hdp hu c0 hvl lFD c1 d1 d2 d3 e1 hf3 hsum hl9 hjl a1 a2 a3 a4 a5 e2; lia))
        rw [List.push_toArray] at N11
        (repeat' (first | (fail_if_success with_reducible refine Nf.go (by constructor) ?_); (fail_if_success fail_if_success with_reducible refine Fd.go (by constructor) ?_; k_fold); refine (let qk := _; let ek := _; (?_ : wpAny _ _ _ qk ek _)) | (fail_if_success fail_if_success k_unfold); (first | with_reducible refine (?_ : wpAny _ _ _ _ _ _) | k_unfold); (try dsimp only); try clear qk ek | (fail_if_success with_reducible refine Stop.go (by constructor) ?_); first | walk1 | dsimp only; walk1))
        refine LpP.next (news := (DD, listOf (dvs ++ [Value.ref TD]).toArray (kd + 1)) :: (fl, listOf fvs.toArray kf) :: (C, oC2) :: (TD, tupOf [Value.int (-((f.length : Nat) : Int)) tk5, Value.str (txt f) t6, Value.int (wt F f) t8] 0) :: ex9) (toKF [(Str.ofString "due", .ref DD), (Str.ofString "folders", .ref FD), (Str.ofString "files", .ref fl)] F11 ⟨rfl, rfl, rfl, trivial⟩) (News.sub N11 (by ((try simp only [List.cons_append, List.nil_append]); repeat' (first | exact .head _ | refine .tail _ ?_ | exact List.forall_mem_nil _ | refine List.forall_mem_cons.mpr ⟨?_, ?_⟩ | assumption | intro _ _)))) ⟨rfl, _, _, _, oC2, some (.ref fa), (TD, tupOf [Value.int (-((f.length : Nat) : Int)) tk5, Value.str (txt f) t6, Value.int (wt F f) t8] 0) :: ex9, rfl, rfl, hC2, List.forall_mem_cons.mpr ⟨⟨by simp, a1, Nat.ne_of_gt a4⟩, cx9⟩, fun h' k x => ?_⟩
        obtain ⟨b1, b2⟩ := hex9 h' k fun p hp => x p (.tail _ hp)
        refine ⟨b1, ?_⟩
        rw [take_succ_at hf, List.map_append]
        exact b2.append (.cons ⟨TD, _, 0, rfl, x _ (.head _), .cons (.i _ _) (.cons (.s _ _) (.cons (.i _ _) .nil))⟩ .nil)
    · rintro h' g' tk9 m news ⟨rfl, u, dvs, kd, oC', v0, ex9, rfl, rfl, hC', cx9, hex9⟩ F7 N7
      clear F3 N3
      have hgv : gvs.length = gs.length := by
        have := (hex9 h' F7.keep fun p hp => (N7 p (.tail _ (.tail _ (.tail _ (.tail _ hp))))).1).1.length
        rwa [List.length_map] at this
      rw [hgv, List.take_length] at hex9
      (repeat' (first | (fail_if_success with_reducible refine Nf.go (by constructor) ?_); (fail_if_success fail_if_success with_reducible refine Fd.go (by constructor) ?_; k_fold); refine (let qk := _; let ek := _; (?_ : wpAny _ _ _ qk ek _)) | (fail_if_success fail_if_success k_unfold); (first | with_reducible refine (?_ : wpAny _ _ _ _ _ _) | k_unfold); (try dsimp only); try clear qk ek | (fail_if_success with_reducible refine Stop.go (by constructor) ?_); first | walk1 | dsimp only; walk1))
      refine sorted_rows (k := kd) (gs := gs) F7 N7 (N7 _ (.tail _ (.head _))).1 (fun h' k x => (hex9 h' k fun p hp => x p (.tail _ (.tail _ (.tail _ (.tail _ hp))))).2) hgN hgn hg2 hgl hpm fun D c h9 tvs F9 N9 l9 A9 => ?_
      have o3 : @LT.lt Nat _ fl D := l9 _ (.tail _ (.tail _ (.head _)))
      (repeat' (first | (fail_if_success with_reducible refine Nf.go (by constructor) ?_); (fail_if_success fail_if_success with_reducible refine Fd.go (by constructor) ?_; k_fold); refine (let qk := _; let ek := _; (?_ : wpAny _ _ _ qk ek _)) | (fail_if_success fail_if_success k_unfold); (first | with_reducible refine (?_ : wpAny _ _ _ _ _ _) | k_unfold); (try dsimp only); try clear qk ek | (fail_if_success with_reducible refine Stop.go (by constructor) ?_); first | walk1 | dsimp only; walk1))
      refine ret _ _ D tvs c (fun b o hb e => ?_) (keep_none KP (N9 _ (.head _)).2.2 fun hm => ?_) (N9 _ (.head _)).1 A9
      · by_cases hbl' : b = fl
        · subst hbl'
          rw [hp] at e; cases e
          exact (N9 _ (.tail _ (.tail _ (.tail _ (.head _))))).1
        · exact F9.keep b o (KP b o (by simp [hbl']) e)
      · rw [List.map_cons, List.map_nil, List.mem_singleton] at hm
        exact absurd hm (Nat.ne_of_gt o3)

end
noncomputable def wordsT (alone : Bool) (texts : List Str) : List Str := ((if alone then Str.ofString " " else Str.ofString "") ++ (texts[0]?).getD (Str.ofString "")) :: (texts.drop 1).map fun t => Str.ofString " " ++ t
noncomputable def lensN (l : List Str) : List Int := l.map fun c => (c.length : Int)
noncomputable def endsT (c : Str) : Bool := Txt.item c (-1) == Str.ofString ";"
noncomputable def cutT (ws : List Str) (a stop : Nat) : Nat := (((List.range' (a + 1) (stop - a)).filter fun k => endsT ((ws[k - 1]?).getD (Str.ofString ""))).getLast?).getD stop
noncomputable def tstep (W : Int) (ws : List Str) (st : List Str × Int × Nat) (stop : Nat) : List Str × Int × Nat :=
  if W < st.2.1 + (lensN ((ws.drop st.2.2).take (stop + 1 - st.2.2))).sum then (st.1 ++ [Txt.join (Str.ofString "") ((ws.drop st.2.2).take (cutT ws st.2.2 stop - st.2.2))], 0, cutT ws st.2.2 stop) else st
noncomputable def twinS (W : Int) (ws : List Str) (st : List Str × Int × Nat) (i : Nat) : List Str × Int × Nat := (List.range' 1 i).foldl (tstep W ws) st
noncomputable def twinP (W head : Int) (texts : List Str) : Str :=
  let b := decide (0 < head) && decide (W < head + ((texts[0]?).getD (Str.ofString "")).length)
  let ws := wordsT b texts
  let st := twinS W ws ((if b then [Str.ofString ""] else []), (if b then 0 else head), 0) (ws.length - 1)
  Txt.join (Str.ofString "|") (st.1 ++ [Txt.join (Str.ofString "") (ws.drop st.2.2)])
theorem tw_ok {ws l : List Str} (h : ∀ c ∈ ws, c.length ≤ 101 ∧ 0 < c.length) (hl : l.length ≤ 50) (s : ∀ c ∈ l, c ∈ ws) : JoinOk (Str.ofString "") l = true ∧ (Txt.join (Str.ofString "") l).length ≤ 6000 := by
  have h1 := StrLaws.sumLen_le (B := 101) l (fun x hx => (h x (s x hx)).1)
  have e1 : (Str.ofString "").length = 0 := rfl
  have h2 := StrLaws.join_length_le (Str.ofString "") l
  rw [e1, Nat.mul_zero] at h2
  refine ⟨joinOk_of (by rw [e1]; (clear e1 h2; lia)), ?_⟩
  rw [show Txt.join (Str.ofString "") l = Str.join (Str.ofString "") l from StrLaws.glued_eq_join _ _]
  (clear e1; lia)
theorem twinS_succ (W : Int) (ws : List Str) (st : List Str × Int × Nat) (i : Nat) : twinS W ws st (i + 1) = tstep W ws (twinS W ws st i) (1 + i) := by
  unfold twinS
  rw [List.range'_concat, List.foldl_append, Nat.one_mul]
  rfl
theorem tw_rows {l : List Str} (h : ∀ c ∈ l, c.length ≤ 6000) (hl : l.length ≤ 60) : JoinOk (Str.ofString "|") l = true := by
  have h1 := StrLaws.sumLen_le (B := 6000) l h
  have e1 : (Str.ofString "|").length = 1 := rfl
  exact joinOk_of (by rw [e1]; (clear e1; lia))
theorem cut_le {ws : List Str} {a stop : Nat} (h : a < stop) : a < cutT ws a stop ∧ cutT ws a stop ≤ stop := by
  unfold cutT
  cases e : (((List.range' (a + 1) (stop - a)).filter fun k => endsT ((ws[k - 1]?).getD (Str.ofString ""))).getLast?) with
  | none => exact ⟨h, Nat.le_refl _⟩
  | some k =>
    have h1 := (List.mem_filter.mp (List.mem_of_getLast? e)).1
    rw [List.mem_range'_1] at h1
    show a < k ∧ k ≤ stop
    omega
theorem ints_snoc {m : Int} : ∀ {ns : List Int} {vs : List Value}, PyProof.Rows.IntsAre vs (ns ++ [m]) → ∃ vs0 t, vs = vs0 ++ [Value.int m t] ∧ vs0.length = ns.length
  | [], vs, h => by
    obtain ⟨t, vs', rfl, h'⟩ := h.cons_inv
    exact ⟨[], t, by rw [h'.nil_inv]; rfl, rfl⟩
  | n :: ns, vs, h => by
    obtain ⟨t, vs', rfl, h'⟩ := h.cons_inv
    obtain ⟨v0, t2, rfl, hl⟩ := ints_snoc h'
    exact ⟨_ :: v0, t2, rfl, by rw [List.length_cons, List.length_cons, hl]⟩

section
variable {w : World} {mg mb : Str → Option Value} {mean : ExcName → Option Value} {dp un : Nat} {gd : Option (List Code)} {fr : List Env} {base : Heap} {s : Shared} {Q E : Value → Shared → Prop}
noncomputable abbrev twinJ (s : Shared) (D : Addr) (b : Bool) (W : Int) (tw : Tok) (head : Int) (th : Tok) (tl : Addr) (C : Addr) (oC : Obj) (DW : Addr) (wvs : List Value) (oT : Obj) (ws : List Str) (rows0 : List Str) (r0 : Int) (i : Nat) (g' : Array GenState) (m : Str → Option Value) (news : List (Addr × Obj)) : Prop := g' = s.gens ∧ ∃ u rvs kr st ts tr, m = KF [(Str.ofString "start", .int ((st.2.2 : Nat) : Int) ts), (Str.ofString "room", .int st.2.1 tr), (Str.ofString "rows", .ref D), (Str.ofString "alone", .bool b), (Str.ofString "width", .int W tw), (Str.ofString "head", .int head th), (Str.ofString "texts", .ref tl)] u ∧ news = [(D, listOf rvs.toArray kr), (C, oC), (DW, listOf wvs.toArray 0), (tl, oT)] ∧ StrsAre rvs st.1 ∧ st = twinS W ws (rows0, r0, 0) i ∧ st.2.2 ≤ i ∧ 0 ≤ st.2.1 ∧ st.2.1 ≤ 10 ∧ st.1.length ≤ i + 1 ∧ ∀ r ∈ st.1, r.length ≤ 6000
theorem twin_spec
  {tl : Addr} {tvs : List Value} {kt : Nat} {texts : List Str} {head W : Int} {th tw : Tok}
  (X : (Mine.heapK w.params).In base) (T : Top topProg GL mean mg mb base) (hS : base.StaysIn s.heap)
  (hp : s.heap.get? tl = some (listOf tvs.toArray kt)) (hbp : base.get? tl = none) (hA : StrsAre tvs texts)
  (hn : texts.length ≤ 50 ∧ 0 < texts.length) (hr : ∀ r ∈ texts, r.length ≤ 100 ∧ 0 < r.length) (hh0 : 0 ≤ head ∧ head ≤ 10)
  (hdp : dp < 700) (hu : un < 800)
  (ret : ∀ h' tk' t', Keep [] s.heap h' → Q (.str (twinP W head texts) t') { s with heap := h', toks := tk' }) :
  wpAny (model PySem.Challenge.rw_ik0220_02.row.prog w) (amb dp un gd fr) (call (.ref 368) [.ref tl, .int head th, .int W tw]) Q E s := by
  revert X; k_fill; intro X
  refine wpAny_call ?_
  k_dflt (refine' enterC (Str.ofString "words") [(Str.ofString "width", .int W tw), (Str.ofString "head", .int head th), (Str.ofString "texts", .ref tl)] [(tl, listOf tvs.toArray kt)] ?kX ?kT hS ?kD ?kho ?khcd ?kroom ?kb ?kl ?kr ?_ ?c1 ?c2 ?c3 ?c4; (
  (case kX => assumption); (case kT => assumption); (case kho => k_is); (case khcd => k_is); (case kb => first | exact BindsTo.of_eq rfl | exact binds_K (by k_in) rfl (by k_is) rfl rfl rfl);
  (case kl => exact locs rfl); (case kr => exact rfl); (case c1 => exact rfl); (case c2 => exact rfl); (case c3 => exact rfl); (case c4 => first | decide | exact fun _ => rfl); (case kroom => first | exact rm0 hdp rfl | (simp only [recursionLimit]; omega))); (case kD => exact fun q hq => by rw [List.mem_singleton.mp hq]; exact ⟨hp, hbp⟩))
  intro g L C oC h1 fr' tk F N hoC X1 T1 KP LTs LC
  refine (let aA := _; let eN := _; let qk := _; let ek := _; (?_ : wpAny _ aA (execs _ eN) qk ek _))
  have c0 : @LT.lt Nat _ tl C := Nat.lt_trans (LTs _ _ hp) LC
  have hvl : tvs.length = texts.length := hA.length
  obtain ⟨t0, tr, rfl⟩ : ∃ a l, texts = a :: l := List.exists_cons_of_length_pos hn.2
  obtain ⟨v0, vr, rfl⟩ : ∃ a l, tvs = a :: l := List.exists_cons_of_length_pos (by (clear hh0 hdp hu c0; lia))
  obtain ⟨tt0, rfl, hA'⟩ : ∃ t, v0 = .str t0 t ∧ StrsAre vr tr := by
    cases hA with
    | cons h => exact ⟨_, rfl, h⟩
  have h0 := hr t0 (.head _)
  repeat' (first | (k_unfold; (try dsimp only)) | ((with_reducible show wpAny _ _ (storeName _ _ _) _ _ _); (try dsimp only); walk1) | ((fail_if_success (with_reducible show wpAny _ _ (exec (Stmt.Assign _ _ _) _) _ _ _)); ((fail_if_success with_reducible refine Stop.go (by constructor) ?_); first | walk1 | dsimp only; walk1)))
  ((fail_if_success (fail_if_success k_fold)); refine (let qk := _; let ek := _; (?_ : wpAny _ _ _ qk ek _)))
  have key : ∀ (b : Bool) (h9 : Heap) (u9 : Str → Option Value) (tk9 : Nat), b = (decide (0 < head) && decide (W < head + t0.length)) → Fr g L h9 (KF [(Str.ofString "alone", .bool b), (Str.ofString "width", .int W tw), (Str.ofString "head", .int head th), (Str.ofString "texts", .ref tl)] u9) → News g L h9 [(C, oC), (tl, listOf (Value.str t0 tt0 :: vr).toArray kt)] → qk .next { s with heap := h9, toks := tk9 } := by
    intro b h9 u9 tk9 hb F9 N9
    repeat' (first | (k_unfold; (try dsimp only)) | ((with_reducible show wpAny _ _ (storeName _ _ _) _ _ _); (try dsimp only); walk1) | ((fail_if_success (with_reducible show wpAny _ _ (eval (Expr.IfExp _ _ _ _) _) _ _ _)); ((fail_if_success with_reducible refine Stop.go (by constructor) ?_); first | walk1 | dsimp only; walk1)))
    ((fail_if_success (fail_if_success k_fold)); refine (let qk := _; let ek := _; (?_ : wpAny _ _ _ qk ek _)))
    have key2 : ∀ (tk9 : Nat) (tf : Tok), qk (.str (if b = true then Str.ofString " " else Str.ofString "") tf) { s with heap := h9, toks := tk9 } := by
      intro tk9 tf
      have hbl : (if b = true then Str.ofString " " else Str.ofString "").length ≤ 1 := by cases b <;> decide
      (repeat' (first | (fail_if_success with_reducible refine Nf.go (by constructor) ?_); (fail_if_success fail_if_success with_reducible refine Fd.go (by constructor) ?_; k_fold); refine (let qk := _; let ek := _; (?_ : wpAny _ _ _ qk ek _)) | (fail_if_success fail_if_success k_unfold); (first | with_reducible refine (?_ : wpAny _ _ _ _ _ _) | k_unfold); (try dsimp only); try clear qk ek | (fail_if_success with_reducible refine Stop.go (by constructor) ?_); first | walk1 | dsimp only; walk1))
      refine sub_list (v := .str t0 tt0) (N9 _ (.tail _ (.head _))).1 (by decide) (by decide) rfl ?_
      (repeat' (first | (fail_if_success with_reducible refine Nf.go (by constructor) ?_); (fail_if_success fail_if_success with_reducible refine Fd.go (by constructor) ?_; k_fold); refine (let qk := _; let ek := _; (?_ : wpAny _ _ _ qk ek _)) | (fail_if_success fail_if_success k_unfold); (first | with_reducible refine (?_ : wpAny _ _ _ _ _ _) | k_unfold); (try dsimp only); try clear qk ek | (fail_if_success with_reducible refine Stop.go (by constructor) ?_); first | walk1 | dsimp only; walk1))
      rename_i tA _ _ t2 h2 F2 N2 o2
      refine PyProof.Rows.LCg.ListComp_U F2 (cl := []) (by with_unfolding_all rfl) (by decide) (by with_unfolding_all rfl) (by decide) (by with_unfolding_all rfl) ?_ (fun _ => by with_unfolding_all rfl)
      (repeat' (first | (fail_if_success with_reducible refine Nf.go (by constructor) ?_); (fail_if_success fail_if_success with_reducible refine Fd.go (by constructor) ?_; k_fold); refine (let qk := _; let ek := _; (?_ : wpAny _ _ _ qk ek _)) | (fail_if_success fail_if_success k_unfold); (first | with_reducible refine (?_ : wpAny _ _ _ _ _ _) | k_unfold); (try dsimp only); try clear qk ek | (fail_if_success with_reducible refine Stop.go (by constructor) ?_); first | walk1 | dsimp only; walk1))
      refine slice_new (by with_unfolding_all rfl) (lo := some 1) (hi := none) F2 N2 ⟨_, (N2 _ (.tail _ (.tail _ (.head _)))).1, rfl, _, rfl⟩ (.int _ _) .none (by rw [List.size_toArray, hvl, sizeLine_eq]; exact Nat.le_trans hn.1 (by decide)) fun q3 sl3 h3 F3 N3 l3 => ?_
      rw [show (some 1 : Option Int) = some ((1 : Nat) : Int) from rfl, pick_from, List.drop_succ_cons, List.drop_zero] at N3
      have hvr : vr.length = tr.length := hA'.length
      refine src_same (l := q3) (vs := vr) (k := 0) (fun i ys => StrsAre ys ((tr.take i).map fun t => Str.ofString " " ++ t)) rfl F3 N3 .nil (by rw [List.length_cons] at hn; (clear hh0 hdp hu c0 hvl h0 hb hbl o2; lia)) (.head _) (fun i v ys I oI C2 oC2 D m₂ h tk E' hv hC hx F9 N9 off ne hys => ?_) fun g9 yp hyp => ?_
      · obtain ⟨c, tc, rfl, hc⟩ := hA'.at' hv
        have hcl := hr c (.tail _ (List.mem_of_getElem? hc))
        (repeat' (first | (fail_if_success with_reducible refine Nf.go (by constructor) ?_); (fail_if_success fail_if_success with_reducible refine Fd.go (by constructor) ?_; k_fold); refine (let qk := _; let ek := _; (?_ : wpAny _ _ _ qk ek _)) | (fail_if_success fail_if_success k_unfold); (first | with_reducible refine (?_ : wpAny _ _ _ _ _ _) | k_unfold); (try dsimp only); try clear qk ek | (fail_if_success with_reducible refine Stop.go (by constructor) ?_); first | walk1 | dsimp only; walk1))
        exact PyProof.Rows.LCg.CompEnd.intro F9 N9 _ (fun p hp => hp) off trivial ⟨rfl, by rw [take_succ_at hc, List.map_append]; exact hys.snoc _ _⟩
      · intro DP hP tP FP NP offP
        rw [hvr, List.take_length] at hyp
        clear N3 F3 l3
        dsimp only
        (repeat' (first | (fail_if_success with_reducible refine Nf.go (by constructor) ?_); (fail_if_success fail_if_success with_reducible refine Fd.go (by constructor) ?_; k_fold); refine (let qk := _; let ek := _; (?_ : wpAny _ _ _ qk ek _)) | (fail_if_success fail_if_success k_unfold); (first | with_reducible refine (?_ : wpAny _ _ _ _ _ _) | k_unfold); (try dsimp only); try clear qk ek | (fail_if_success with_reducible refine Stop.go (by constructor) ?_); first | walk1 | dsimp only; walk1))
        have NP := News.sub (news' := [(DP, listOf yp.toArray yp.length), (t2, listOf #[Value.str ((if b = true then Str.ofString " " else Str.ofString "") ++ t0) tA] 0), (C, oC), (tl, listOf (Value.str t0 tt0 :: vr).toArray kt)]) NP (by ((try simp only [List.cons_append, List.nil_append]); repeat' (first | exact .head _ | refine .tail _ ?_ | exact List.forall_mem_nil _ | refine List.forall_mem_cons.mpr ⟨?_, ?_⟩ | assumption | intro _ _)))
        clear offP
        refine kmk_add_lit FP NP (its := #[Value.str ((if b = true then Str.ofString " " else Str.ofString "") ++ t0) tA]) (its2 := yp.toArray) (zs := Value.str ((if b = true then Str.ofString " " else Str.ofString "") ++ t0) tA :: yp) ⟨_, (NP _ (.tail _ (.head _))).1, rfl, _, rfl⟩ ⟨_, (NP _ (.head _)).1, rfl, _, rfl⟩ (by simp) (fun DW hW FW NW lW => ?_) (by have := hyp.length; rw [List.length_map] at this; rw [List.length_cons] at hn; simp [sizeLine_eq]; (clear hh0 hdp hu c0 hvl h0 hb hbl o2; lia))
        have NW := News.sub (news' := [(C, oC), (DW, listOf (Value.str ((if b = true then Str.ofString " " else Str.ofString "") ++ t0) tA :: yp).toArray 0), (tl, listOf (Value.str t0 tt0 :: vr).toArray kt)]) NW (by ((try simp only [List.cons_append, List.nil_append]); repeat' (first | exact .head _ | refine .tail _ ?_ | exact List.forall_mem_nil _ | refine List.forall_mem_cons.mpr ⟨?_, ?_⟩ | assumption | intro _ _)))
        have c1 : @LT.lt Nat _ C DW := lW _ (.tail _ (.tail _ (.head _)))
        refine storeX_C (c := C) (o := oC) FW NW rfl (.head (List.forall_mem_cons.mpr ⟨Nat.ne_of_gt c1, List.forall_mem_cons.mpr ⟨Nat.ne_of_lt c0, List.forall_mem_nil _⟩⟩)) hoC (fun h5 oC2 F5 N5 hC2 => ?_)
        have hyw : StrsAre (Value.str ((if b = true then Str.ofString " " else Str.ofString "") ++ t0) tA :: yp) (wordsT b (t0 :: tr)) := .cons hyp
        clear FP NP FW NW F2
        repeat' (first | (k_unfold; (try dsimp only)) | ((with_reducible show wpAny _ _ (storeName _ _ _) _ _ _); (try dsimp only); walk1) | ((fail_if_success (with_reducible show wpAny _ _ (eval (Expr.IfExp _ _ _ _) _) _ _ _)); ((fail_if_success with_reducible refine Stop.go (by constructor) ?_); first | walk1 | dsimp only; walk1)))
        have hws : (wordsT b (t0 :: tr)).length ≤ 50 ∧ 0 < (wordsT b (t0 :: tr)).length := by
          rw [show (wordsT b (t0 :: tr)).length = tr.length + 1 by simp [wordsT]]
          exact ⟨hn.1, Nat.succ_pos _⟩
        have hwl : ∀ c ∈ wordsT b (t0 :: tr), c.length ≤ 101 ∧ 0 < c.length := fun c hc => by
          rcases List.mem_cons.mp hc with rfl | hc
          · show ((if b = true then Str.ofString " " else Str.ofString "") ++ t0).length ≤ 101 ∧ 0 < ((if b = true then Str.ofString " " else Str.ofString "") ++ t0).length
            rw [Str.length_append]
            (clear hh0 hdp hu c0 hn hvl o2 hvr c1 hws; lia)
          · obtain ⟨t, ht, rfl⟩ := List.mem_map.mp hc
            have := hr t (.tail _ ht)
            have e1 : (Str.ofString " ").length = 1 := rfl
            rw [Str.length_append, e1]
            (clear hh0 hdp hu c0 hn hvl h0 hb hbl o2 hvr c1 hws e1; lia)
        generalize hwe : wordsT b (t0 :: tr) = ws at hyw hws hwl
        generalize (Value.str ((if b = true then Str.ofString " " else Str.ofString "") ++ t0) tA :: yp) = wvs at hyw N5
        have hwv : wvs.length = ws.length := hyw.length
        clear hyp hvr
        with_reducible show wpAny _ _ (eval _ _) _ _ _
        ((fail_if_success (fail_if_success k_fold)); refine (let qk := _; let ek := _; (?_ : wpAny _ _ _ qk ek _)))
        have key3 : ∀ (h9 : Heap) (tk9 : Nat) (D : Addr) (rvs : List Value) (kr : Nat), StrsAre rvs (if b = true then [Str.ofString ""] else []) → Fr g L h9 (KF [(Str.ofString "alone", .bool b), (Str.ofString "width", .int W tw), (Str.ofString "head", .int head th), (Str.ofString "texts", .ref tl)] u9) → News g L h9 [(D, listOf rvs.toArray kr), (C, oC2), (DW, listOf wvs.toArray 0), (tl, listOf (Value.str t0 tt0 :: vr).toArray kt)] → @LT.lt Nat _ DW D → qk (.ref D) { s with heap := h9, toks := tk9 } := by
          intro h9 tk9 D rvs kr hrv F9 N9 lD
          repeat' (first | (k_unfold; (try dsimp only)) | ((with_reducible show wpAny _ _ (storeName _ _ _) _ _ _); (try dsimp only); walk1) | ((fail_if_success (with_reducible show wpAny _ _ (eval (Expr.IfExp _ _ _ _) _) _ _ _)); ((fail_if_success with_reducible refine Stop.go (by constructor) ?_); first | walk1 | dsimp only; walk1)))
          rename Heap => h6; rename Fr _ _ _ _ => F6; rename News _ _ _ _ => N6
          ((fail_if_success (fail_if_success k_fold)); refine (let qk := _; let ek := _; (?_ : wpAny _ _ _ qk ek _)))
          have key4 : ∀ (tk7 : Nat) (tf : Tok), qk (.int (if b = true then 0 else head) tf) { s with heap := h6, toks := tk7 } := by
            intro tk7 tf
            have hr0 : 0 ≤ (if b = true then 0 else head) ∧ (if b = true then 0 else head) ≤ 10 := by cases b <;> simp <;> (clear hdp hu c0 hn hvl h0 o2 c1 hws hwv lD hb hbl; omega)
            (repeat' (first | (fail_if_success with_reducible refine Nf.go (by constructor) ?_); (fail_if_success fail_if_success with_reducible refine Fd.go (by constructor) ?_; k_fold); refine (let qk := _; let ek := _; (?_ : wpAny _ _ _ qk ek _)) | (fail_if_success fail_if_success k_unfold); (first | with_reducible refine (?_ : wpAny _ _ _ _ _ _) | k_unfold); (try dsimp only); try clear qk ek | (fail_if_success with_reducible refine Stop.go (by constructor) ?_); first | walk1 | dsimp only; walk1))
            rename Heap => h7; rename Fr _ _ _ _ => F7; rename News _ _ _ _ => N7
            have hrl : (if b = true then [Str.ofString ""] else []).length ≤ 1 := by cases b <;> decide
            have hrs : ∀ r ∈ (if b = true then [Str.ofString ""] else []), r.length ≤ 6000 := by
              cases b
              · exact fun r hr => no_mem hr
              · exact fun r hr => by rw [List.mem_singleton.mp hr]; decide
            generalize hr00 : (if b = true then 0 else head) = r0 at F7 hr0
            generalize hrv0 : (if b = true then [Str.ofString ""] else []) = rows0 at hrv hrl hrs
            refine for_RC g L 1 (ws.length - 1) [(D, listOf rvs.toArray kr), (C, oC2), (DW, listOf wvs.toArray 0), (tl, listOf (Value.str t0 tt0 :: vr).toArray kt)] (twinJ s D b W tw head th tl C oC2 DW wvs (listOf (Value.str t0 tt0 :: vr).toArray kt) ws rows0 r0) rfl (by (clear hh0 hdp hu c0 hn hvl h0 hb hbl o2 c1 lD hr00 hr0 hrl; omega)) ?_ ?_ ?_ ?_
            · (repeat' (first | (fail_if_success with_reducible refine Nf.go (by constructor) ?_); (fail_if_success fail_if_success with_reducible refine Fd.go (by constructor) ?_; k_fold); refine (let qk := _; let ek := _; (?_ : wpAny _ _ _ qk ek _)) | (fail_if_success fail_if_success k_unfold); (first | with_reducible refine (?_ : wpAny _ _ _ _ _ _) | k_unfold); (try dsimp only); try clear qk ek | (fail_if_success with_reducible refine Stop.go (by constructor) ?_); first | walk1 | dsimp only; walk1))
              refine len_li (N7 _ (.tail _ (.tail _ (.head _)))).1 (by (clear hh0 hdp hu c0 hn hvl h0 hb hbl o2 c1 lD hr00 hr0 hrl; lia)) fun t5 tk5 => ?_
              (repeat' (first | (fail_if_success with_reducible refine Nf.go (by constructor) ?_); (fail_if_success fail_if_success with_reducible refine Fd.go (by constructor) ?_; k_fold); refine (let qk := _; let ek := _; (?_ : wpAny _ _ _ qk ek _)) | (fail_if_success fail_if_success k_unfold); (first | with_reducible refine (?_ : wpAny _ _ _ _ _ _) | k_unfold); (try dsimp only); try clear qk ek | (fail_if_success with_reducible refine Stop.go (by constructor) ?_); first | walk1 | dsimp only; walk1))
              rename_i hq tq u1 u2 u3 hR FR NR _
              exact RGo.mk hR rfl (by rw [hwv, show 1 + (ws.length - 1) = ws.length by (clear hh0 hdp hu c0 hn hvl h0 hb hbl o2 c1 lD hr00 hr0 hrl; lia)]) (toKF [(Str.ofString "start", .int ((0 : Nat) : Int) _), (Str.ofString "room", .int r0 _), (Str.ofString "rows", .ref D), (Str.ofString "alone", .bool b), (Str.ofString "width", .int W tw), (Str.ofString "head", .int head th), (Str.ofString "texts", .ref tl)] FR ⟨rfl, rfl, rfl, rfl, rfl, rfl, rfl, trivial⟩) NR ⟨rfl, _, rvs, kr, (rows0, r0, 0), _, _, rfl, rfl, hrv, rfl, Nat.zero_le _, hr0.1, hr0.2, hrl, hrs⟩
            · rintro i g' m news ⟨-, u, rvs, kr, st, ts, tr, -, rfl, -⟩ p hp
              simp only [List.mem_cons, List.not_mem_nil, or_false] at hp
              rcases hp with rfl | rfl | rfl | rfl
              · exact .inl (by simp)
              · exact .inr ⟨_, .tail _ (.head _)⟩
              · exact .inl (by simp)
              · exact .inl (by simp)
            · rintro i ti h' g' tk9 m news I oI hi ⟨rfl, u, rvs, kr, ⟨rows, room, start⟩, ts, trm, rfl, rfl, hrv9, hst, hs1, hr1, hr2, hl1, hrs9⟩ F8 N8 lI
              dsimp only at hrv9 hs1 hr1 hr2 hl1 hrs9 F8
              have hrv9l := hrv9.length
              clear F7 N7
              (repeat' (first | (fail_if_success with_reducible refine Nf.go (by constructor) ?_); (fail_if_success fail_if_success with_reducible refine Fd.go (by constructor) ?_; k_fold); refine (let qk := _; let ek := _; (?_ : wpAny _ _ _ qk ek _)) | (fail_if_success fail_if_success k_unfold); (first | with_reducible refine (?_ : wpAny _ _ _ _ _ _) | k_unfold); (try dsimp only); try clear qk ek | (fail_if_success with_reducible refine Stop.go (by constructor) ?_); first | walk1 | dsimp only; walk1))
              rename Heap => h5'; rename Fr _ _ _ _ => F5; rename News _ _ _ _ => N5
              refine PyProof.Rows.LCg.ListComp_U F5 (cl := []) (by with_unfolding_all rfl) (by decide) (by with_unfolding_all rfl) (by decide) (by with_unfolding_all rfl) ?_ (fun _ => by with_unfolding_all rfl)
              (repeat' (first | (fail_if_success with_reducible refine Nf.go (by constructor) ?_); (fail_if_success fail_if_success with_reducible refine Fd.go (by constructor) ?_; k_fold); refine (let qk := _; let ek := _; (?_ : wpAny _ _ _ qk ek _)) | (fail_if_success fail_if_success k_unfold); (first | with_reducible refine (?_ : wpAny _ _ _ _ _ _) | k_unfold); (try dsimp only); try clear qk ek | (fail_if_success with_reducible refine Stop.go (by constructor) ?_); first | walk1 | dsimp only; walk1))
              refine slice_new (by with_unfolding_all rfl) (lo := some ((start : Nat) : Int)) (hi := some (((1 + i : Nat) : Int) + 1)) F5 N5 ⟨_, (N5 _ (.tail _ (.tail _ (.tail _ (.head _))))).1, rfl, _, rfl⟩ (.int _ _) (.int _ _) (by rw [List.size_toArray, hwv, sizeLine_eq]; (clear hh0 hdp hu c0 hn hvl h0 hb hbl o2 c1 lD hr00 hr0 hrl hi hst hs1 hr1 hr2 hl1 hrv9l; lia)) fun q3 sl3 h6 F6' N6' l6 => ?_
              rw [show ((1 + i : Nat) : Int) + 1 = ((1 + i + 1 : Nat) : Int) by (clear hh0 hdp hu c0 hn hvl h0 hb hbl o2 c1 hws hwv lD hr00 hr0 hrl hi hst hs1 hr1 hr2 hl1 hrv9l; lia), slicePick_run wvs.toArray start (1 + i + 1) (by rw [List.size_toArray]; (clear hh0 hdp hu c0 hn hvl h0 hb hbl o2 c1 lD hr00 hr0 hrl hst hs1 hr1 hr2 hl1 hrv9l; lia)) (by (clear hh0 hdp hu c0 hn hvl h0 hb hbl o2 c1 hws hwv lD hr00 hr0 hrl hi hst hr1 hr2 hl1 hrv9l; lia)), List.toList_toArray] at N6'
              have hyq := (hyw.drop (n := start)).take (n := 1 + i + 1 - start)
              have hql := hyq.length
              have hqm : ∀ c ∈ (ws.drop start).take (1 + i + 1 - start), c ∈ ws := fun c hc => List.mem_of_mem_drop (List.mem_of_mem_take hc)
              have hq50 : ((ws.drop start).take (1 + i + 1 - start)).length ≤ 50 := by rw [List.length_take, List.length_drop]; exact Nat.le_trans (Nat.min_le_right _ _) (Nat.le_trans (Nat.sub_le _ _) hws.1)
              refine src_same (l := q3) (vs := (wvs.drop start).take (1 + i + 1 - start)) (k := 0) (fun i' ys => PyProof.Rows.IntsAre ys (lensN (((ws.drop start).take (1 + i + 1 - start)).take i'))) rfl F6' N6' .nil (by (clear hh0 hdp hu c0 hn hvl h0 hb hbl o2 c1 lD hr00 hr0 hrl hi hst hr1 hr2 hl1 hrv9l; omega)) (.head _) (fun i' v ys I2 oI2 C2 oC3 D2 m₂ h tk E' hv hC hx F9 N9 off ne hys => ?_) fun g9 yz hyz => ?_
              · obtain ⟨c, tc, rfl, hc⟩ := hyq.at' hv
                have hcl := hwl c (hqm c (List.mem_of_getElem? hc))
                (repeat' (first | (fail_if_success with_reducible refine Nf.go (by constructor) ?_); (fail_if_success fail_if_success with_reducible refine Fd.go (by constructor) ?_; k_fold); refine (let qk := _; let ek := _; (?_ : wpAny _ _ _ qk ek _)) | (fail_if_success fail_if_success k_unfold); (first | with_reducible refine (?_ : wpAny _ _ _ _ _ _) | k_unfold); (try dsimp only); try clear qk ek | (fail_if_success with_reducible refine Stop.go (by constructor) ?_); first | walk1 | dsimp only; walk1))
                exact PyProof.Rows.LCg.CompEnd.intro F9 N9 _ (fun p hp => hp) off trivial ⟨rfl, by rw [take_succ_at hc]; show PyProof.Rows.IntsAre _ ((_ ++ [c]).map _); rw [List.map_append]; exact hys.append (ints_one _ _)⟩
              · intro DZ hZ tZ FZ NZ offZ
                rw [hql, List.take_length] at hyz
                have NZ := News.sub (news' := (DZ, listOf yz.toArray yz.length) :: [(I, oI), (D, listOf rvs.toArray kr), (C, oC2), (DW, listOf wvs.toArray 0), (tl, listOf (Value.str t0 tt0 :: vr).toArray kt)]) NZ (by ((try simp only [List.cons_append, List.nil_append]); repeat' (first | exact .head _ | refine .tail _ ?_ | exact List.forall_mem_nil _ | refine List.forall_mem_cons.mpr ⟨?_, ?_⟩ | assumption | intro _ _)))
                clear offZ N6' F6' N5 l6
                dsimp only
                (repeat' (first | (fail_if_success with_reducible refine Nf.go (by constructor) ?_); (fail_if_success fail_if_success with_reducible refine Fd.go (by constructor) ?_; k_fold); refine (let qk := _; let ek := _; (?_ : wpAny _ _ _ qk ek _)) | (fail_if_success fail_if_success k_unfold); (first | with_reducible refine (?_ : wpAny _ _ _ _ _ _) | k_unfold); (try dsimp only); try clear qk ek | (fail_if_success with_reducible refine Stop.go (by constructor) ?_); first | walk1 | dsimp only; walk1))
                refine sumK rfl FZ NZ ⟨_, (NZ _ (.head _)).1, rfl, _, rfl⟩ hyz fun h8 tk8 t8 F10 N10 => ?_
                (repeat' (first | (fail_if_success with_reducible refine Nf.go (by constructor) ?_); (fail_if_success fail_if_success with_reducible refine Fd.go (by constructor) ?_; k_fold); refine (let qk := _; let ek := _; (?_ : wpAny _ _ _ qk ek _)) | (fail_if_success fail_if_success k_unfold); (first | with_reducible refine (?_ : wpAny _ _ _ _ _ _) | k_unfold); (try dsimp only); try clear qk ek | (fail_if_success with_reducible refine Stop.go (by constructor) ?_); first | walk1 | dsimp only; walk1))
                · rename_i e0
                  have N10 := News.sub (news' := [(I, oI), (D, listOf rvs.toArray kr), (C, oC2), (DW, listOf wvs.toArray 0), (tl, listOf (Value.str t0 tt0 :: vr).toArray kt)]) N10 (by ((try simp only [List.cons_append, List.nil_append]); repeat' (first | exact .head _ | refine .tail _ ?_ | exact List.forall_mem_nil _ | refine List.forall_mem_cons.mpr ⟨?_, ?_⟩ | assumption | intro _ _)))
                  refine PyProof.Rows.LCt.Assign_ListComp_T F10 rfl (cl := [(Str.ofString "words", C)]) (by with_unfolding_all rfl) (by with_unfolding_all rfl) (by decide) (by with_unfolding_all rfl) (by decide) (by with_unfolding_all rfl) (by with_unfolding_all rfl) (by with_unfolding_all rfl) ?_ (fun _ => by with_unfolding_all rfl)
                  (repeat' (first | (fail_if_success with_reducible refine Nf.go (by constructor) ?_); (fail_if_success fail_if_success with_reducible refine Fd.go (by constructor) ?_; k_fold); refine (let qk := _; let ek := _; (?_ : wpAny _ _ _ qk ek _)) | (fail_if_success fail_if_success k_unfold); (first | with_reducible refine (?_ : wpAny _ _ _ _ _ _) | k_unfold); (try dsimp only); try clear qk ek | (fail_if_success with_reducible refine Stop.go (by constructor) ?_); first | walk1 | dsimp only; walk1))
                  rename_i hq tq u1 u2 u3 hR FR NR _
                  refine srcT_range (n := 1 + i - start) (fun i' ys => PyProof.Rows.IntsAre ys ((((List.range' (start + 1) (1 + i - start)).take i').filter fun k => endsT ((ws[k - 1]?).getD (Str.ofString ""))).map fun k => ((k : Nat) : Int))) rfl FR NR .nil (start + 1) hR (by (clear hh0 hdp hu c0 hn hvl h0 hb hbl o2 c1 hws hwv lD hr00 hr0 hrl hi hst hs1 hr1 hr2 hl1 hrv9l hql hq50 e0; lia)) (by (clear hh0 hdp hu c0 hn hvl h0 hb hbl o2 c1 hws hwv lD hr00 hr0 hrl hi hst hr1 hr2 hl1 hrv9l hql hq50 e0; omega)) (by (clear hh0 hdp hu c0 hn hvl h0 hb hbl o2 c1 lD hr00 hr0 hrl hst hr1 hr2 hl1 hrv9l hql hq50 e0; omega)) (fun g9 => ?_) (fun g9 ys hys => ?_)
                  · rintro i' v ys I2 oI2 C2 oC3 D2 m₂ h tk9 E' hi' ⟨t9, rfl⟩ hC hx F9 N9 off ne hys
                    clear FR NR
                    (repeat' (first | (fail_if_success with_reducible refine Nf.go (by constructor) ?_); (fail_if_success fail_if_success with_reducible refine Fd.go (by constructor) ?_; k_fold); refine (let qk := _; let ek := _; (?_ : wpAny _ _ _ qk ek _)) | (fail_if_success fail_if_success k_unfold); (first | with_reducible refine (?_ : wpAny _ _ _ _ _ _) | k_unfold); (try dsimp only); try clear qk ek | (fail_if_success with_reducible refine Stop.go (by constructor) ?_); first | walk1 | dsimp only; walk1))
                    have hil : start + i' < wvs.length := by rw [hwv]; exact Nat.lt_of_lt_of_le (Nat.add_lt_of_lt_sub' hi') (Nat.le_trans (by rw [Nat.add_comm]; exact hi) (Nat.sub_le _ _))
                    obtain ⟨c, tc, hvc, hc⟩ := hyw.at' (List.getElem?_eq_getElem hil)
                    have hcl := hwl c (List.mem_of_getElem? hc)
                    refine sub_list (v := .str c tc) (N9 _ (.tail _ (.tail _ (.tail _ (.tail _ (.tail _ (.tail _ (.head _)))))))).1 (by (clear hh0 hdp hu c0 hn hvl h0 hb hbl o2 c1 lD hr00 hr0 hrl hst hr1 hr2 hl1 hrv9l hql hq50 e0 hcl; lia)) (by (clear hh0 hdp hu c0 hn hvl h0 hb hbl o2 c1 lD hr00 hr0 hrl hst hr1 hr2 hl1 hrv9l hql hq50 e0 hcl; lia)) (by rw [show ((start : Int) + 1 + (i' : Int) - 1).toNat = start + i' by (clear hh0 hdp hu c0 hn hvl h0 hb hbl o2 c1 lD hr00 hr0 hrl hst hr1 hr2 hl1 hrv9l hql hq50 e0 hcl; lia), List.getElem?_eq_getElem hil, hvc]) ?_
                    (repeat' (first | (fail_if_success with_reducible refine Nf.go (by constructor) ?_); (fail_if_success fail_if_success with_reducible refine Fd.go (by constructor) ?_; k_fold); refine (let qk := _; let ek := _; (?_ : wpAny _ _ _ qk ek _)) | (fail_if_success fail_if_success k_unfold); (first | with_reducible refine (?_ : wpAny _ _ _ _ _ _) | k_unfold); (try dsimp only); try clear qk ek | (fail_if_success with_reducible refine Stop.go (by constructor) ?_); first | walk1 | dsimp only; walk1))
                    have hrg : (List.range' (start + 1) (1 + i - start))[i']? = some (start + 1 + i') := by rw [List.getElem?_range' (by (clear hh0 hdp hu c0 hn hvl h0 hb hbl o2 c1 lD hr00 hr0 hrl hst hr1 hr2 hl1 hrv9l hql hq50 e0 hcl; omega)), Nat.one_mul]
                    have hwk : ws[start + 1 + i' - 1]? = some c := by rw [show start + 1 + i' - 1 = start + i' by (clear hh0 hdp hu c0 hn hvl h0 hb hbl o2 c1 lD hr00 hr0 hrl hst hr1 hr2 hl1 hrv9l hql hq50 e0 hcl; lia)]; exact hc
                    by_cases e : (Txt.item c (-1) == Str.ofString ";") = true
                    · refine WhlIf.yes e ?_
                      (repeat' (first | (fail_if_success with_reducible refine Nf.go (by constructor) ?_); (fail_if_success fail_if_success with_reducible refine Fd.go (by constructor) ?_; k_fold); refine (let qk := _; let ek := _; (?_ : wpAny _ _ _ qk ek _)) | (fail_if_success fail_if_success k_unfold); (first | with_reducible refine (?_ : wpAny _ _ _ _ _ _) | k_unfold); (try dsimp only); try clear qk ek | (fail_if_success with_reducible refine Stop.go (by constructor) ?_); first | walk1 | dsimp only; walk1))
                      exact PyProof.Rows.LCg.CompEnd.intro F9 N9 _ (fun p hp => hp) off trivial ⟨rfl, by
                        (try dsimp only)
                        rw [take_succ_at hrg, List.filter_append, List.filter_cons_of_pos (p := fun k => endsT ((ws[k - 1]?).getD (Str.ofString ""))) (by rw [hwk]; exact e), List.map_append]
                        exact hys.append (by simpa using ints_one _ _)⟩
                    · refine WhlIf.no (by simpa using e) ?_
                      exact PyProof.Rows.LCg.CompEnd.intro F9 N9 _ (fun p hp => hp) off trivial ⟨rfl, by
                        (try dsimp only)
                        rw [take_succ_at hrg, List.filter_append, List.filter_cons_of_neg (p := fun k => endsT ((ws[k - 1]?).getD (Str.ofString ""))) (by rw [hwk]; exact e), List.filter_nil, List.append_nil]
                        exact hys⟩
                  · intro DE hE tE FE NE offE
                    rw [List.take_of_length_le (by rw [List.length_range']; (clear hh0 hdp hu c0 hn hvl h0 hb hbl o2 c1 hws hwv lD hr00 hr0 hrl hi hst hs1 hr1 hr2 hl1 hrv9l hql hq50 e0; lia))] at hys
                    clear FR NR
                    repeat' (first | (k_unfold; (try dsimp only)) | ((with_reducible show wpAny _ _ (storeName _ _ _) _ _ _); (try dsimp only); walk1) | ((fail_if_success (with_reducible show wpAny _ _ (exec (Stmt.Assign _ _ _) _) _ _ _)); ((fail_if_success with_reducible refine Stop.go (by constructor) ?_); first | walk1 | dsimp only; walk1)))
                    ((fail_if_success (fail_if_success k_fold)); refine (let qk := _; let ek := _; (?_ : wpAny _ _ _ qk ek _)))
                    have hcut := cut_le (ws := ws) (a := start) (stop := 1 + i) (by (clear hh0 hdp hu c0 hn hvl h0 hb hbl o2 c1 hws hwv lD hr00 hr0 hrl hi hst hr1 hr2 hl1 hrv9l hql hq50 e0; lia))
                    have c2 : @LT.lt Nat _ D I := lI _ (.head _)
                    have key5 : ∀ (h9 : Heap) (tk9 : Nat) (tc : Tok) (u9 : Str → Option Value), Fr g L h9 (KF [(Str.ofString "cut", .int ((cutT ws start (1 + i) : Nat) : Int) tc), (Str.ofString "start", .int ((start : Nat) : Int) ts), (Str.ofString "room", .int room trm), (Str.ofString "rows", .ref D), (Str.ofString "alone", .bool b), (Str.ofString "width", .int W tw), (Str.ofString "head", .int head th), (Str.ofString "texts", .ref tl)] u9) → News g L h9 [(I, oI), (D, listOf rvs.toArray kr), (C, oC2), (DW, listOf wvs.toArray 0), (tl, listOf (Value.str t0 tt0 :: vr).toArray kt)] → qk .next { s with heap := h9, toks := tk9 } := by
                      intro h9 tk9 tc u9 F9 N9
                      generalize hce : cutT ws start (1 + i) = cut at hcut F9
                      clear FE NE offE
                      (repeat' (first | (fail_if_success with_reducible refine Nf.go (by constructor) ?_); (fail_if_success fail_if_success with_reducible refine Fd.go (by constructor) ?_; k_fold); refine (let qk := _; let ek := _; (?_ : wpAny _ _ _ qk ek _)) | (fail_if_success fail_if_success k_unfold); (first | with_reducible refine (?_ : wpAny _ _ _ _ _ _) | k_unfold); (try dsimp only); try clear qk ek | (fail_if_success with_reducible refine Stop.go (by constructor) ?_); first | walk1 | dsimp only; walk1))
                      refine slice_new (by with_unfolding_all rfl) (lo := some ((start : Nat) : Int)) (hi := some ((cut : Nat) : Int)) F9 N9 ⟨_, (N9 _ (.tail _ (.tail _ (.tail _ (.head _))))).1, rfl, _, rfl⟩ (.int _ _) (.int _ _) (by rw [List.size_toArray, hwv, sizeLine_eq]; (clear hh0 hdp hu c0 hn hvl h0 hb hbl o2 c1 lD hr00 hr0 hrl hi hst hs1 hr1 hr2 hl1 hrv9l hql hq50 e0 c2 hce hcut; omega)) fun q3 sl3 h6 F6' N6' l6 => ?_
                      rw [slicePick_run wvs.toArray start cut (by rw [List.size_toArray, hwv]; exact Nat.le_trans hcut.2 (Nat.le_trans (by rw [Nat.add_comm]; exact hi) (Nat.sub_le _ _))) (by (clear hh0 hdp hu c0 hn hvl h0 hb hbl o2 c1 hws hwv lD hr00 hr0 hrl hi hst hs1 hr1 hr2 hl1 hrv9l hql hq50 e0 c2 hce; lia)), List.toList_toArray] at N6'
                      clear F9 N9
                      (repeat' (first | (fail_if_success with_reducible refine Nf.go (by constructor) ?_); (fail_if_success fail_if_success with_reducible refine Fd.go (by constructor) ?_; k_fold); refine (let qk := _; let ek := _; (?_ : wpAny _ _ _ qk ek _)) | (fail_if_success fail_if_success k_unfold); (first | with_reducible refine (?_ : wpAny _ _ _ _ _ _) | k_unfold); (try dsimp only); try clear qk ek | (fail_if_success with_reducible refine Stop.go (by constructor) ?_); first | walk1 | dsimp only; walk1))
                      obtain ⟨l9, el, em⟩ := ((hyw.drop (n := start)).take (n := cut - start)).values
                      obtain ⟨jo9, jl9⟩ := tw_ok (l := (ws.drop start).take (cut - start)) hwl (by rw [List.length_take, List.length_drop]; exact Nat.le_trans (Nat.min_le_right _ _) (Nat.le_trans (Nat.sub_le _ _) hws.1)) (fun c hc => List.mem_of_mem_drop (List.mem_of_mem_take hc))
                      refine SC.join (l := l9) ⟨_, (N6' _ (.head _)).1, rfl, _, by rw [el]⟩ em jo9 fun t9 k9 => ?_
                      (repeat' (first | (fail_if_success with_reducible refine Nf.go (by constructor) ?_); (fail_if_success fail_if_success with_reducible refine Fd.go (by constructor) ?_; k_fold); refine (let qk := _; let ek := _; (?_ : wpAny _ _ _ qk ek _)) | (fail_if_success fail_if_success k_unfold); (first | with_reducible refine (?_ : wpAny _ _ _ _ _ _) | k_unfold); (try dsimp only); try clear qk ek | (fail_if_success with_reducible refine Stop.go (by constructor) ?_); first | walk1 | dsimp only; walk1))
                      have c3 : @LT.lt Nat _ D q3 := l6 _ (.tail _ (.head _))
                      refine append_K (U := Upd.tail (p := (q3, _)) (Nat.ne_of_gt c3) (Upd.tail (p := (sl3, _)) ?_ (Upd.tail (p := (I, oI)) (Nat.ne_of_gt c2) (Upd.head ?_)))) F6' N6' (fun h10 F10 N10 => ?_) (by rw [List.size_toArray, sizeLine_eq]; (clear hh0 hdp hu c0 hn hvl h0 hb hbl o2 c1 lD hr00 hr0 hrl hst hs1 hr1 hr2 hql hq50 e0 c2 hce hcut jo9 jl9 c3; lia))
                      · intro e9
                        have z1 := (N6' _ (.tail _ (.head _))).1
                        have z2 := (N6' _ (.tail _ (.tail _ (.tail _ (.head _))))).1
                        rw [show sl3 = D from e9, z2] at z1
                        have z3 := congrArg Obj.cls (Option.some.inj z1)
                        simp [sliceO] at z3
                      · exact List.forall_mem_cons.mpr ⟨Nat.ne_of_lt (Nat.lt_trans c1 lD), List.forall_mem_cons.mpr ⟨Nat.ne_of_lt lD, List.forall_mem_cons.mpr ⟨Nat.ne_of_lt (Nat.lt_trans (Nat.lt_trans c0 c1) lD), List.forall_mem_nil _⟩⟩⟩
                      (repeat' (first | (fail_if_success with_reducible refine Nf.go (by constructor) ?_); (fail_if_success fail_if_success with_reducible refine Fd.go (by constructor) ?_; k_fold); refine (let qk := _; let ek := _; (?_ : wpAny _ _ _ qk ek _)) | (fail_if_success fail_if_success k_unfold); (first | with_reducible refine (?_ : wpAny _ _ _ _ _ _) | k_unfold); (try dsimp only); try clear qk ek | (fail_if_success with_reducible refine Stop.go (by constructor) ?_); first | walk1 | dsimp only; walk1))
                      rename Heap => h11; rename Fr _ _ _ _ => F11; rename News _ _ _ _ => N11
                      refine LpP.next (news := [(D, listOf (rvs ++ [Value.str (Txt.join (Str.ofString "") ((ws.drop start).take (cut - start))) t9]).toArray (kr + 1)), (C, oC2), (DW, listOf wvs.toArray 0), (tl, listOf (Value.str t0 tt0 :: vr).toArray kt)]) (toKF [(Str.ofString "start", .int ((cut : Nat) : Int) tc), (Str.ofString "room", .int 0 _), (Str.ofString "rows", .ref D), (Str.ofString "alone", .bool b), (Str.ofString "width", .int W tw), (Str.ofString "head", .int head th), (Str.ofString "texts", .ref tl)] F11 ⟨rfl, rfl, rfl, rfl, rfl, rfl, rfl, trivial⟩) ?_ ⟨rfl, _, _, _, (rows ++ [Txt.join (Str.ofString "") ((ws.drop start).take (cut - start))], 0, cut), _, _, rfl, rfl, hrv9.snoc _ _, ?_, by dsimp only; (clear hh0 hdp hu c0 hn hvl h0 hb hbl o2 c1 hws hwv lD hr00 hr0 hrl hi hst hs1 hr1 hr2 hl1 hrv9l hql hq50 e0 c2 hce jo9 jl9 c3; lia), Int.le_refl 0, by show (0 : Int) ≤ 10; decide, ?_, ?_⟩
                      · rw [List.push_toArray] at N11
                        exact News.sub N11 (by ((try simp only [List.cons_append, List.nil_append]); repeat' (first | exact .head _ | refine .tail _ ?_ | exact List.forall_mem_nil _ | refine List.forall_mem_cons.mpr ⟨?_, ?_⟩ | assumption | intro _ _)))
                      · rw [twinS_succ, ← hst]
                        unfold tstep
                        rw [if_pos e0, hce]
                      · show (rows ++ [_]).length ≤ _
                        rw [List.length_append, List.length_singleton]
                        (clear hh0 hdp hu c0 hn hvl h0 hb hbl o2 c1 hws hwv lD hr00 hr0 hrl hi hst hs1 hr1 hr2 hql hq50 e0 c2 hce hcut jo9 jl9 c3; lia)
                      · exact fun r hr => (List.mem_append.mp hr).elim (hrs9 r) fun h => by rw [List.mem_singleton.mp h]; exact jl9
                    clear_value qk
                    rcases List.eq_nil_or_concat ((List.range' (start + 1) (1 + i - start)).filter fun k => endsT ((ws[k - 1]?).getD (Str.ofString ""))) with e | ⟨l, k, e⟩
                    · have ec : cutT ws start (1 + i) = 1 + i := by unfold cutT; rw [e]; rfl
                      rw [e] at hys
                      obtain rfl := hys.nil_inv
                      (repeat' (first | (fail_if_success with_reducible refine Nf.go (by constructor) ?_); (fail_if_success fail_if_success with_reducible refine Fd.go (by constructor) ?_; k_fold); refine (let qk := _; let ek := _; (?_ : wpAny _ _ _ qk ek _)) | (fail_if_success fail_if_success k_unfold); (first | with_reducible refine (?_ : wpAny _ _ _ _ _ _) | k_unfold); (try dsimp only); try clear qk ek | (fail_if_success with_reducible refine Stop.go (by constructor) ?_); first | walk1 | dsimp only; walk1))
                      rename_i h5 F5 N5 l5
                      refine sub_last (vs := []) (N5 _ (.head _)).1 (by decide) ?_
                      (repeat' (first | (fail_if_success with_reducible refine Nf.go (by constructor) ?_); (fail_if_success fail_if_success with_reducible refine Fd.go (by constructor) ?_; k_fold); refine (let qk := _; let ek := _; (?_ : wpAny _ _ _ qk ek _)) | (fail_if_success fail_if_success k_unfold); (first | with_reducible refine (?_ : wpAny _ _ _ _ _ _) | k_unfold); (try dsimp only); try clear qk ek | (fail_if_success with_reducible refine Stop.go (by constructor) ?_); first | walk1 | dsimp only; walk1))
                      rename Heap => h6; rename Fr _ _ _ _ => F6; rename News _ _ _ _ => N6
                      rw [ec] at key5
                      exact key5 _ _ _ _ (toKF [(Str.ofString "cut", .int ((1 + i : Nat) : Int) _), (Str.ofString "start", .int ((start : Nat) : Int) ts), (Str.ofString "room", .int room trm), (Str.ofString "rows", .ref D), (Str.ofString "alone", .bool b), (Str.ofString "width", .int W tw), (Str.ofString "head", .int head th), (Str.ofString "texts", .ref tl)] F6 ⟨rfl, rfl, rfl, rfl, rfl, rfl, rfl, rfl, trivial⟩) (News.sub N6 (by ((try simp only [List.cons_append, List.nil_append]); repeat' (first | exact .head _ | refine .tail _ ?_ | exact List.forall_mem_nil _ | refine List.forall_mem_cons.mpr ⟨?_, ?_⟩ | assumption | intro _ _))))
                    · have ec : cutT ws start (1 + i) = k := by unfold cutT; rw [e]; simp
                      rw [e, List.concat_eq_append, List.map_append] at hys
                      obtain ⟨ys0, t5, rfl, hyl⟩ := ints_snoc hys
                      have hyb : ys0.length ≤ 60 := by
                        have h1 := List.length_filter_le (fun k => endsT ((ws[k - 1]?).getD (Str.ofString ""))) (List.range' (start + 1) (1 + i - start))
                        rw [e, List.length_range', List.concat_eq_append, List.length_append, List.length_singleton] at h1
                        rw [hyl, List.length_map]
                        exact Nat.le_trans (Nat.le_of_succ_le h1) (Nat.le_trans (Nat.sub_le _ _) (Nat.le_trans (by rw [Nat.add_comm]; exact hi) (Nat.le_trans (Nat.sub_le _ _) (Nat.le_trans hws.1 (by decide)))))
                      (repeat' (first | (fail_if_success with_reducible refine Nf.go (by constructor) ?_); (fail_if_success fail_if_success with_reducible refine Fd.go (by constructor) ?_; k_fold); refine (let qk := _; let ek := _; (?_ : wpAny _ _ _ qk ek _)) | (fail_if_success fail_if_success k_unfold); (first | with_reducible refine (?_ : wpAny _ _ _ _ _ _) | k_unfold); (try dsimp only); try clear qk ek | (fail_if_success with_reducible refine Stop.go (by constructor) ?_); first | walk1 | dsimp only; walk1))
                      refine truthy_li1 (NE _ (.head _)).1 (by (clear hh0 hdp hu c0 hn hvl h0 hb hbl o2 c1 lD hr00 hr0 hrl hst hr1 hr2 hl1 hrv9l hql hq50 e0 hcut c2 ec; lia)) fun tk5 => ?_
                      (repeat' (first | (fail_if_success with_reducible refine Nf.go (by constructor) ?_); (fail_if_success fail_if_success with_reducible refine Fd.go (by constructor) ?_; k_fold); refine (let qk := _; let ek := _; (?_ : wpAny _ _ _ qk ek _)) | (fail_if_success fail_if_success k_unfold); (first | with_reducible refine (?_ : wpAny _ _ _ _ _ _) | k_unfold); (try dsimp only); try clear qk ek | (fail_if_success with_reducible refine Stop.go (by constructor) ?_); first | walk1 | dsimp only; walk1))
                      refine sub_last (NE _ (.head _)).1 (by (clear hh0 hdp hu c0 hn hvl h0 hb hbl o2 c1 lD hr00 hr0 hrl hst hr1 hr2 hl1 hrv9l hql hq50 e0 hcut c2 ec; omega)) ?_
                      (repeat' (first | (fail_if_success with_reducible refine Nf.go (by constructor) ?_); (fail_if_success fail_if_success with_reducible refine Fd.go (by constructor) ?_; k_fold); refine (let qk := _; let ek := _; (?_ : wpAny _ _ _ qk ek _)) | (fail_if_success fail_if_success k_unfold); (first | with_reducible refine (?_ : wpAny _ _ _ _ _ _) | k_unfold); (try dsimp only); try clear qk ek | (fail_if_success with_reducible refine Stop.go (by constructor) ?_); first | walk1 | dsimp only; walk1))
                      rename Heap => h6; rename Fr _ _ _ _ => F6; rename News _ _ _ _ => N6
                      rw [ec] at key5
                      exact key5 _ _ _ _ (toKF [(Str.ofString "cut", .int ((k : Nat) : Int) _), (Str.ofString "start", .int ((start : Nat) : Int) ts), (Str.ofString "room", .int room trm), (Str.ofString "rows", .ref D), (Str.ofString "alone", .bool b), (Str.ofString "width", .int W tw), (Str.ofString "head", .int head th), (Str.ofString "texts", .ref tl)] F6 ⟨rfl, rfl, rfl, rfl, rfl, rfl, rfl, rfl, trivial⟩) (News.sub N6 (by ((try simp only [List.cons_append, List.nil_append]); repeat' (first | exact .head _ | refine .tail _ ?_ | exact List.forall_mem_nil _ | refine List.forall_mem_cons.mpr ⟨?_, ?_⟩ | assumption | intro _ _))))
                · rename_i e0
                  exact LpP.next (news := [(D, listOf rvs.toArray kr), (C, oC2), (DW, listOf wvs.toArray 0), (tl, listOf (Value.str t0 tt0 :: vr).toArray kt)]) (toKF [(Str.ofString "start", .int ((start : Nat) : Int) ts), (Str.ofString "room", .int room trm), (Str.ofString "rows", .ref D), (Str.ofString "alone", .bool b), (Str.ofString "width", .int W tw), (Str.ofString "head", .int head th), (Str.ofString "texts", .ref tl)] F10 ⟨rfl, rfl, rfl, rfl, rfl, rfl, rfl, trivial⟩) (News.sub N10 (by ((try simp only [List.cons_append, List.nil_append]); repeat' (first | exact .head _ | refine .tail _ ?_ | exact List.forall_mem_nil _ | refine List.forall_mem_cons.mpr ⟨?_, ?_⟩ | assumption | intro _ _)))) ⟨rfl, _, rvs, kr, (rows, room, start), ts, trm, rfl, rfl, hrv9, by rw [twinS_succ, ← hst]; exact (if_neg e0).symm, Nat.le_succ_of_le hs1, hr1, hr2, Nat.le_succ_of_le hl1, hrs9⟩
            · rintro h' g' tk9 m news ⟨rfl, u, rvs, kr, ⟨rows, room, start⟩, ts, trm, rfl, rfl, hrv9, hst, hs1, hr1, hr2, hl1, hrs9⟩ F8 N8
              dsimp only at hrv9 hs1 hr1 hr2 hl1 hrs9 F8
              have hrv9l := hrv9.length
              clear F7 N7
              (repeat' (first | (fail_if_success with_reducible refine Nf.go (by constructor) ?_); (fail_if_success fail_if_success with_reducible refine Fd.go (by constructor) ?_; k_fold); refine (let qk := _; let ek := _; (?_ : wpAny _ _ _ qk ek _)) | (fail_if_success fail_if_success k_unfold); (first | with_reducible refine (?_ : wpAny _ _ _ _ _ _) | k_unfold); (try dsimp only); try clear qk ek | (fail_if_success with_reducible refine Stop.go (by constructor) ?_); first | walk1 | dsimp only; walk1))
              refine slice_new (by with_unfolding_all rfl) (lo := some ((start : Nat) : Int)) (hi := none) F8 N8 ⟨_, (N8 _ (.tail _ (.tail _ (.head _)))).1, rfl, _, rfl⟩ (.int _ _) .none (by rw [List.size_toArray, hwv, sizeLine_eq]; (clear hh0 hdp hu c0 hn hvl h0 hb hbl o2 c1 lD hr00 hr0 hrl hst hs1 hr1 hr2 hl1 hrv9l; omega)) fun q3 sl3 h3 F3 N3 l3 => ?_
              rw [pick_from] at N3
              clear F8 N8
              (repeat' (first | (fail_if_success with_reducible refine Nf.go (by constructor) ?_); (fail_if_success fail_if_success with_reducible refine Fd.go (by constructor) ?_; k_fold); refine (let qk := _; let ek := _; (?_ : wpAny _ _ _ qk ek _)) | (fail_if_success fail_if_success k_unfold); (first | with_reducible refine (?_ : wpAny _ _ _ _ _ _) | k_unfold); (try dsimp only); try clear qk ek | (fail_if_success with_reducible refine Stop.go (by constructor) ?_); first | walk1 | dsimp only; walk1))
              obtain ⟨l9, el, em⟩ := (hyw.drop (n := start)).values
              obtain ⟨jo9, jl9⟩ := tw_ok (l := ws.drop start) hwl (by rw [List.length_drop]; (clear hh0 hdp hu c0 hn hvl h0 hb hbl o2 c1 lD hr00 hr0 hrl hst hs1 hr1 hr2 hl1 hrv9l; lia)) (fun c hc => List.mem_of_mem_drop hc)
              refine SC.join (l := l9) ⟨_, (N3 _ (.head _)).1, rfl, _, by rw [el]⟩ em jo9 fun t9 k9 => ?_
              (repeat' (first | (fail_if_success with_reducible refine Nf.go (by constructor) ?_); (fail_if_success fail_if_success with_reducible refine Fd.go (by constructor) ?_; k_fold); refine (let qk := _; let ek := _; (?_ : wpAny _ _ _ qk ek _)) | (fail_if_success fail_if_success k_unfold); (first | with_reducible refine (?_ : wpAny _ _ _ _ _ _) | k_unfold); (try dsimp only); try clear qk ek | (fail_if_success with_reducible refine Stop.go (by constructor) ?_); first | walk1 | dsimp only; walk1))
              rename Heap => h4; rename Fr _ _ _ _ => F4; rename News _ _ _ _ => N4
              obtain ⟨l5, el5, em5⟩ := (hrv9.snoc (Txt.join (Str.ofString "") (List.drop start ws)) t9).values
              have jo5 : JoinOk (Str.ofString "|") (rows ++ [Txt.join (Str.ofString "") (List.drop start ws)]) = true := tw_rows (fun c hc => by
                rcases List.mem_append.mp hc with hc | hc
                · exact hrs9 c hc
                · rw [List.mem_singleton.mp hc]; exact jl9) (by rw [List.length_append, List.length_singleton]; (clear hh0 hdp hu c0 hn hvl h0 hb hbl o2 c1 lD hr00 hr0 hrl hst hs1 hr1 hr2 jo9 jl9; lia))
              refine SC.join (l := l5) ⟨_, (N4 _ (.head _)).1, rfl, _, by rw [el5]⟩ em5 jo5 fun t6 k6 => ?_
              (repeat' (first | (fail_if_success with_reducible refine Nf.go (by constructor) ?_); (fail_if_success fail_if_success with_reducible refine Fd.go (by constructor) ?_; k_fold); refine (let qk := _; let ek := _; (?_ : wpAny _ _ _ qk ek _)) | (fail_if_success fail_if_success k_unfold); (first | with_reducible refine (?_ : wpAny _ _ _ _ _ _) | k_unfold); (try dsimp only); try clear qk ek | (fail_if_success with_reducible refine Stop.go (by constructor) ?_); first | walk1 | dsimp only; walk1))
              have hfin : twinP W head (t0 :: tr) = Txt.join (Str.ofString "|") (rows ++ [Txt.join (Str.ofString "") (List.drop start ws)]) := by
                unfold twinP
                dsimp only [List.getElem?_cons_zero, Option.getD_some]
                rw [← hb, hwe, hrv0, hr00, ← hst]
              rw [← hfin]
              refine ret _ _ _ fun b' o hb' e => ?_
              by_cases hbl' : b' = tl
              · subst hbl'
                rw [hp] at e; cases e
                exact (N4 _ (.tail _ (.tail _ (.tail _ (.tail _ (.tail _ (.tail _ (.tail _ (.head _))))))))).1
              · exact F4.keep b' o (KP b' o (by simp [hbl']) e)
          clear_value qk
          (repeat' (first | (fail_if_success with_reducible refine Nf.go (by constructor) ?_); (fail_if_success fail_if_success with_reducible refine Fd.go (by constructor) ?_; k_fold); refine (let qk := _; let ek := _; (?_ : wpAny _ _ _ qk ek _)) | (fail_if_success fail_if_success k_unfold); (first | with_reducible refine (?_ : wpAny _ _ _ _ _ _) | k_unfold); (try dsimp only); try clear qk ek | (fail_if_success with_reducible refine Stop.go (by constructor) ?_); first | walk1 | dsimp only; walk1))
          · rw [if_pos ‹b = true›] at key4
            exact key4 _ _
          · rw [if_neg (by rw [‹b = false›]; decide)] at key4
            exact key4 _ _
        clear_value qk
        (repeat' (first | (fail_if_success with_reducible refine Nf.go (by constructor) ?_); (fail_if_success fail_if_success with_reducible refine Fd.go (by constructor) ?_; k_fold); refine (let qk := _; let ek := _; (?_ : wpAny _ _ _ qk ek _)) | (fail_if_success fail_if_success k_unfold); (first | with_reducible refine (?_ : wpAny _ _ _ _ _ _) | k_unfold); (try dsimp only); try clear qk ek | (fail_if_success with_reducible refine Stop.go (by constructor) ?_); first | walk1 | dsimp only; walk1))
        · rename_i D h6 F6 N6 lD
          rw [if_pos ‹b = true›] at key3
          exact key3 _ _ _ _ _ (.cons .nil) F6 N6 lD.2.1
        · rename_i D h6 F6 N6 lD
          rw [if_neg (by rw [‹b = false›]; decide)] at key3
          exact key3 _ _ _ _ _ .nil F6 N6 lD.2.1
    clear_value qk
    (repeat' (first | (fail_if_success with_reducible refine Nf.go (by constructor) ?_); (fail_if_success fail_if_success with_reducible refine Fd.go (by constructor) ?_; k_fold); refine (let qk := _; let ek := _; (?_ : wpAny _ _ _ qk ek _)) | (fail_if_success fail_if_success k_unfold); (first | with_reducible refine (?_ : wpAny _ _ _ _ _ _) | k_unfold); (try dsimp only); try clear qk ek | (fail_if_success with_reducible refine Stop.go (by constructor) ?_); first | walk1 | dsimp only; walk1))
    · rename_i e0
      rw [if_pos e0] at key2
      exact key2 _ _
    · rename_i e0
      rw [if_neg (by rw [e0]; decide)] at key2
      exact key2 _ _
  clear_value qk
  (repeat' (first | (fail_if_success with_reducible refine Nf.go (by constructor) ?_); (fail_if_success fail_if_success with_reducible refine Fd.go (by constructor) ?_; k_fold); refine (let qk := _; let ek := _; (?_ : wpAny _ _ _ qk ek _)) | (fail_if_success fail_if_success k_unfold); (first | with_reducible refine (?_ : wpAny _ _ _ _ _ _) | k_unfold); (try dsimp only); try clear qk ek | (fail_if_success with_reducible refine Stop.go (by constructor) ?_); first | walk1 | dsimp only; walk1))
  · refine sub_list (v := .str t0 tt0) (N _ (.tail _ (.head _))).1 (by decide) (by decide) rfl ?_
    (repeat' (first | (fail_if_success with_reducible refine Nf.go (by constructor) ?_); (fail_if_success fail_if_success with_reducible refine Fd.go (by constructor) ?_; k_fold); refine (let qk := _; let ek := _; (?_ : wpAny _ _ _ qk ek _)) | (fail_if_success fail_if_success k_unfold); (first | with_reducible refine (?_ : wpAny _ _ _ _ _ _) | k_unfold); (try dsimp only); try clear qk ek | (fail_if_success with_reducible refine Stop.go (by constructor) ?_); first | walk1 | dsimp only; walk1))
    rename_i e0 h9 F9 N9
    refine key _ _ _ _ ?_ (toKF [(Str.ofString "alone", .bool _), (Str.ofString "width", .int W tw), (Str.ofString "head", .int head th), (Str.ofString "texts", .ref tl)] F9 ⟨rfl, rfl, rfl, rfl, trivial⟩) N9
    rw [decide_eq_true e0, Bool.true_and]
  · rename_i e0 h9 F9 N9
    refine key _ _ _ _ ?_ (toKF [(Str.ofString "alone", .bool _), (Str.ofString "width", .int W tw), (Str.ofString "head", .int head th), (Str.ofString "texts", .ref tl)] F9 ⟨rfl, rfl, rfl, rfl, trivial⟩) N9
    rw [decide_eq_false e0, Bool.false_and]

end
theorem sl_app (x y : Str) : sl (x ++ y) = sl x ++ sl y := by
  show (x.cps ++ y.cps).toList = _
  rw [Array.toList_append]
theorem sl_eq {x y : Str} (h : sl x = sl y) : x = y := by
  obtain ⟨a⟩ := x
  obtain ⟨b⟩ := y
  have : a = b := Array.toList_inj.mp h
  rw [this]
theorem cone_eq (c : Str × Str) : cone c = c.1 ++ c.2 := sl_eq (by rw [sl_cone, sl_app])
noncomputable def MkT (m : Nat) (t : Str) : Prop := ∃ u, sl t = u ++ [m]
theorem MkT.cps {m : Nat} {t : Str} (h : MkT m t) : ∃ u : List Nat, t.cps = (u ++ [m]).toArray := by
  obtain ⟨u, hu⟩ := h
  exact ⟨u, by rw [← hu]⟩
theorem MkT.pos {m : Nat} {t : Str} (h : MkT m t) : 0 < t.length := by
  obtain ⟨u, hu⟩ := h.cps
  show 0 < t.cps.size
  simp [hu]
theorem MkT.app {m : Nat} {t : Str} (a : Str) (h : MkT m t) : MkT m (a ++ t) := by
  obtain ⟨u, hu⟩ := h
  exact ⟨sl a ++ u, by rw [sl_app, hu, List.append_assoc]⟩
theorem MkT.ends {m ch : Nat} {a t : Str} (h : MkT m t) : endsC ch (a, t) = (m == ch) := by
  obtain ⟨u, hu⟩ := h.cps
  unfold endsC
  dsimp only
  rw [hu]
  simp
theorem semi_is : Str.ofString ";" = ⟨#[59]⟩ := by decide +kernel
theorem marks_are : (Str.ofString ";,").cps.toList = [59, 44] := by decide +kernel
theorem MkT.endsT {m : Nat} {t : Str} (h : MkT m t) : endsT t = (m == 59) := by
  obtain ⟨u, hu⟩ := h.cps
  have hl : t.length = u.length + 1 := by show t.cps.size = _; rw [hu]; simp
  have hi : seqIndex? (-1) t.length = some u.length := by
    rw [hl]
    have h1 : (0 ≤ -1 + ((u.length + 1 : Nat) : Int)) := by (clear hl; lia)
    have h2 : (-1 + ((u.length + 1 : Nat) : Int) < ((u.length + 1 : Nat) : Int)) := by (clear hl h1; lia)
    have h3 : (-1 + ((u.length + 1 : Nat) : Int)).toNat = u.length := by (clear hl h1 h2; lia)
    unfold seqIndex?
    simp only [show ((-1 : Int) < 0) = True from by decide, if_true, h1, h2, h3, decide_true, Bool.and_self]
  have e : Txt.item t (-1) = ⟨#[m]⟩ := by
    show (⟨#[(Txt.charAt t (-1)).getD 0]⟩ : Str) = _
    have : Txt.charAt t (-1) = some m := by
      unfold Txt.charAt
      rw [hi, hu]
      simp
    rw [this]
    rfl
  show (Txt.item t (-1) == Str.ofString ";") = _
  rw [e, semi_is]
  by_cases q : m = 59
  · subst q; decide +kernel
  · rw [beq_eq_false_iff_ne.mpr q]
    exact beq_eq_false_iff_ne.mpr fun h => q (by
      have := congrArg Str.cps h
      simpa using this)
noncomputable def MkE (t : Str) : Prop := MkT 59 t ∨ MkT 44 t
theorem MkE.pos {t : Str} (h : MkE t) : 0 < t.length := h.elim (·.pos) (·.pos)
theorem innR_last {cs : List (Str × Str)} {ch : Nat} : ∀ k, innR cs ch k = ((List.range' 1 k).filter fun i => ((cs[i - 1]?).map (endsC ch)).getD false).getLast?
  | 0 => rfl
  | k + 1 => by
    have ih := innR_last (cs := cs) (ch := ch) k
    rw [List.range'_concat, List.filter_append, Nat.one_mul]
    cases e : cs[k]? with
    | none =>
      rw [List.filter_cons_of_neg (by rw [Nat.add_sub_cancel_left, e]; simp), List.filter_nil, List.append_nil, ← ih]
      simp [innR, e]
    | some c =>
      cases q : endsC ch c with
      | true =>
        rw [innR_hit e q, List.filter_cons_of_pos (by rw [Nat.add_sub_cancel_left, e]; simpa using q), List.filter_nil, List.getLast?_append]
        simp [Nat.add_comm]
      | false => rw [innR_miss e q, List.filter_cons_of_neg (by rw [Nat.add_sub_cancel_left, e]; simp [q]), List.filter_nil, List.append_nil, ← ih]
theorem cut_eq {ws : List Str} {cs : List (Str × Str)} {a stop : Nat} (has : a < stop) (hm : ∀ c ∈ cs, MkE c.2) (hl : cs.length = stop + 1 - a) (hw : cs.map cone = (ws.drop a).take (stop + 1 - a)) : cutAt cs (Str.ofString ";,").cps.toList = some (cutT ws a stop - a) := by
  have hat : ∀ i, i < stop + 1 - a → ∃ c, cs[i]? = some c ∧ ws[a + i]? = some (cone c) ∧ MkE c.2 := fun i hi => by
    have h1 : i < cs.length := by (clear has; lia)
    refine ⟨cs[i], List.getElem?_eq_getElem h1, ?_, hm _ (List.getElem_mem h1)⟩
    have h2 : (cs.map cone)[i]? = some (cone cs[i]) := by rw [List.getElem?_map, List.getElem?_eq_getElem h1]; rfl
    rw [hw, List.getElem?_take_of_lt hi, List.getElem?_drop] at h2
    exact h2
  have e1 : ((List.range' (a + 1) (stop - a)).filter fun k => endsT ((ws[k - 1]?).getD (Str.ofString ""))).getLast? = (innR cs 59 (cs.length - 1)).map (a + ·) := by
    rw [innR_last, show cs.length - 1 = stop - a by rw [hl, Nat.sub_right_comm, Nat.add_sub_cancel], show (List.range' (a + 1) (stop - a)) = (List.range' 1 (stop - a)).map (a + ·) from by rw [List.map_add_range'], List.filter_map, List.getLast?_map]
    congr 2
    refine List.filter_congr fun k hk => ?_
    rw [List.mem_range'_1] at hk
    obtain ⟨c, h1, h2, h3⟩ := hat (k - 1) (by have h := hk.2; rw [Nat.add_comm 1] at h; exact Nat.lt_of_lt_of_le (Nat.sub_lt hk.1 Nat.one_pos) (Nat.le_trans (Nat.le_of_lt_succ h) (Nat.sub_le_sub_right (Nat.le_succ _) _)))
    show endsT ((ws[a + k - 1]?).getD _) = _
    rw [Nat.add_sub_assoc hk.1 a, h2, h1, Option.getD_some]
    show endsT (cone c) = endsC 59 c
    obtain ⟨c1, c2⟩ := c
    rw [cone_eq]
    rcases h3 with h3 | h3
    · rw [(h3.app c1).endsT, h3.ends]
    · rw [(h3.app c1).endsT, h3.ends]
  unfold cutT
  rw [e1, marks_are]
  unfold cutAt
  cases e2 : innR cs 59 (cs.length - 1) with
  | some i => simp
  | none =>
    dsimp only
    unfold cutAt
    obtain ⟨⟨c1, c2⟩, h1, -, h3⟩ := hat (stop - a - 1) (Nat.lt_of_le_of_lt (Nat.sub_le _ _) (Nat.sub_lt_sub_right (Nat.le_of_lt has) (Nat.lt_succ_self _)))
    have e3 : cs.length - 1 = (stop - a - 1) + 1 := by rw [hl, Nat.sub_right_comm, Nat.add_sub_cancel]; exact (Nat.sub_add_cancel (Nat.sub_pos_of_lt has)).symm
    rw [e3] at e2 ⊢
    have h44 : MkT 44 c2 := h3.resolve_left fun h => by
      rw [innR_hit h1 (by rw [h.ends]; rfl)] at e2
      cases e2
    rw [innR_hit h1 (by rw [h44.ends]; rfl)]
    show some _ = some (stop - a)
    congr 1
    exact Nat.sub_add_cancel (Nat.sub_pos_of_lt has)
theorem tlen_lens (cs : List (Str × Str)) : tlen cs = (lensN (cs.map cone)).sum := by
  unfold tlen lensN
  rw [List.map_map]
  congr 1
  exact List.map_congr_left fun c _ => by show clen c = (((cone c).length : Nat) : Int); rw [cone_len]; rfl
structure Rel (ws : List Str) (i : Nat) (st : List Str × List (Str × Str) × Int) (tw : List Str × Int × Nat) : Prop where
  rows : st.1 = tw.1
  room : st.2.2 = tw.2.1
  nn : 0 ≤ tw.2.1
  le : tw.2.2 ≤ i
  lt : i < ws.length
  len : st.2.1.length = i + 1 - tw.2.2
  map : st.2.1.map cone = (ws.drop tw.2.2).take (i + 1 - tw.2.2)
  mks : ∀ c ∈ st.2.1, MkE c.2
theorem Rel.step {W : Int} {ws : List Str} {i : Nat} {st : List Str × List (Str × Str) × Int} {tw : List Str × Int × Nat} {a t : Str} (x : Rel ws i st tw) (ht : MkE t) (hw : ws[i + 1]? = some (a ++ t)) : Rel ws (i + 1) (stD W st (a, t)) (tstep W ws tw (1 + i)) := by
  obtain ⟨LS, cs, n⟩ := st
  obtain ⟨rows, room, start⟩ := tw
  obtain ⟨h1, h2, h3, h4, h5, h6, h7, h8⟩ := x
  dsimp only at h1 h2 h3 h4 h6 h7 h8
  subst h1 h2
  have hlt : i + 1 < ws.length := (List.getElem?_eq_some_iff.mp hw).1
  have m2 : ∀ c ∈ cs ++ [(a, t)], MkE c.2 := fun c hc => by
    rcases List.mem_append.mp hc with hc | hc
    · exact h8 c hc
    · rw [List.mem_singleton.mp hc]; exact ht
  have l2 : (cs ++ [(a, t)]).length = (1 + i) + 1 - start := by rw [List.length_append, List.length_singleton, h6, Nat.add_comm 1 i]; exact (Nat.succ_sub (Nat.le_succ_of_le h4)).symm
  have w2 : (cs ++ [(a, t)]).map cone = (ws.drop start).take ((1 + i) + 1 - start) := by
    have e : (ws.drop start)[i + 1 - start]? = some (a ++ t) := by rw [List.getElem?_drop, Nat.add_sub_cancel' (Nat.le_succ_of_le h4)]; exact hw
    rw [show (1 + i) + 1 - start = (i + 1 - start) + 1 by rw [Nat.add_comm 1 i]; exact Nat.succ_sub (Nat.le_succ_of_le h4), take_succ_at e, List.map_append, h7, List.map_cons, List.map_nil, cone_eq]
  by_cases hf : n + tlen (cs ++ [(a, t)]) ≤ W
  · unfold stD tstep
    rw [chunkR_fit rfl hf, if_neg (by dsimp only; rw [← w2, ← tlen_lens]; (clear h5 h6 h3 hlt l2; lia))]
    exact ⟨rfl, rfl, h3, Nat.le_succ_of_le h4, hlt, by rw [Nat.add_comm i 1]; exact l2, by rw [Nat.add_comm i 1]; exact w2, m2⟩
  · have hc := cut_eq (ws := ws) (a := start) (stop := 1 + i) (by (clear h5 h6 h3 hlt l2 hf; lia)) m2 l2 w2
    have hb := cut_le (ws := ws) (a := start) (stop := 1 + i) (by (clear h5 h3 hlt hf; lia))
    unfold stD tstep
    rw [chunkR_cut rfl hf hc, if_pos (by dsimp only; rw [← w2, ← tlen_lens]; (clear h5 h3 hlt hb; lia))]
    dsimp only
    clear hc
    generalize cutT ws start (1 + i) = cut at hb ⊢
    refine ⟨?_, rfl, Int.le_refl _, by dsimp only; (clear h5 h6 h3 hlt l2 hf; lia), hlt, ?_, ?_, fun c hc => m2 c (List.mem_of_mem_drop hc)⟩
    · show LS ++ [ctxt _] = LS ++ [_]
      congr 2
      show Txt.join _ (((cs ++ [(a, t)]).take _).map cone) = _
      rw [List.map_take, w2, List.take_take, Nat.min_eq_left (Nat.sub_le_sub_right (Nat.le_succ_of_le hb.2) _)]
    · show ((cs ++ [(a, t)]).drop (cut - start)).length = i + 1 + 1 - cut
      rw [List.length_drop, l2, Nat.sub_sub_sub_cancel_right (Nat.le_of_lt hb.1), Nat.add_comm 1 i]
    · show ((cs ++ [(a, t)]).drop (cut - start)).map cone = (ws.drop cut).take (i + 1 + 1 - cut)
      rw [List.map_drop, w2, List.drop_take, List.drop_drop]
      rw [Nat.add_sub_cancel' (Nat.le_of_lt hb.1), Nat.sub_sub_sub_cancel_right (Nat.le_of_lt hb.1), Nat.add_comm 1 i]
theorem ws_zero (b : Bool) (t0 : Str) (r : List Str) : wordsT b (t0 :: r) = ((if b then Str.ofString " " else Str.ofString "") ++ t0) :: r.map fun t => Str.ofString " " ++ t := rfl
theorem cutAt_one (c : Str × Str) (l : List Nat) : cutAt [c] l = none := cutAt_none fun _ _ _ => rfl
theorem Rel.zero {W head : Int} {t0 : Str} {r : List Str} {b : Bool} (h0 : 0 ≤ head) (ht : MkE t0) (hb : b = (decide (0 < head) && decide (W < head + t0.length))) : Rel (wordsT b (t0 :: r)) 0 (stD W ([], [], head) (firstSp 0, t0)) ((if b then [Str.ofString ""] else []), (if b then 0 else head), 0) := by
  have hc : tlen ([] ++ [(firstSp 0, t0)]) = (t0.length : Int) := by
    show ([(firstSp 0, t0)].map clen).sum = _
    rw [List.map_cons, List.map_nil, List.sum_cons, List.sum_nil]
    show (((Str.ofString "").length + t0.length : Nat) : Int) + 0 = _
    rw [show (Str.ofString "").length = 0 from rfl, Nat.zero_add, Int.add_zero]
  have mk : ∀ a : Str, ∀ c ∈ [(a, t0)], MkE c.2 := fun a c hc => by rw [List.mem_singleton.mp hc]; exact ht
  have old : stD W ([], [], head) (firstSp 0, t0) = ([], [(Str.ofString "", t0)], head) → b = false → Rel (wordsT b (t0 :: r)) 0 (stD W ([], [], head) (firstSp 0, t0)) ((if b then [Str.ofString ""] else []), (if b then 0 else head), 0) := fun e hb => by
    subst hb
    rw [e, ws_zero]
    exact ⟨rfl, rfl, h0, Nat.le_refl _, Nat.succ_pos _, rfl, by show [cone _] = [_]; rw [cone_eq]; rfl, mk _⟩
  by_cases hf : head + tlen ([] ++ [(firstSp 0, t0)]) ≤ W
  · refine old ?_ ?_
    · unfold stD; rw [chunkR_fit rfl hf]; rfl
    · rw [hb, decide_eq_false (p := W < _) (by (clear h0 hb old; lia)), Bool.and_false]
  · by_cases hh : 0 < head
    · have e1 : b = true := by rw [hb, decide_eq_true hh, decide_eq_true (by (clear h0 hb old hh; lia))]; rfl
      subst e1
      unfold stD
      rw [chunkR_new rfl hf (cutAt_one _ _) hh (if_pos rfl), ws_zero]
      have e9 : (if 0 < head + tlen (nlc []) then ([] : List Str) ++ [ctxt (nlc [])] else []) = [Str.ofString ""] := by
        rw [if_pos (by rw [show tlen (nlc []) = 0 from rfl]; (clear h0 hc hf hb old; lia))]
        decide +kernel
      dsimp only
      rw [e9]
      exact ⟨rfl, rfl, Int.le_refl _, Nat.le_refl _, Nat.succ_pos _, rfl, by show [cone _] = [_]; rw [cone_eq]; rfl, mk _⟩
    · refine old ?_ ?_
      · unfold stD; rw [chunkR_old rfl hf (cutAt_one _ _) hh]; rfl
      · rw [hb, decide_eq_false (p := 0 < head) hh, Bool.false_and]
theorem Rel.all {W head : Int} {t0 : Str} {r : List Str} {b : Bool} (h0 : 0 ≤ head) (hm : ∀ t ∈ t0 :: r, MkE t) (hb : b = (decide (0 < head) && decide (W < head + t0.length))) : ∀ i, i < (t0 :: r).length →
    Rel (wordsT b (t0 :: r)) i (foldD W head ((cksOf (t0 :: r)).take (i + 1))) (twinS W (wordsT b (t0 :: r)) ((if b then [Str.ofString ""] else []), (if b then 0 else head), 0) i)
  | 0, _ => by
    rw [take_succ_at (cksOf_at (i := 0) rfl)]
    exact Rel.zero h0 (hm t0 (.head _)) hb
  | i + 1, h => by
    have hi : i < r.length := Nat.lt_of_succ_lt_succ h
    have e : (t0 :: r)[i + 1]? = some r[i] := by rw [List.getElem?_cons_succ, List.getElem?_eq_getElem hi]
    rw [take_succ_at (cksOf_at e), twinS_succ]
    unfold foldD
    rw [List.foldl_append]
    refine (Rel.all h0 hm hb i (Nat.lt_of_succ_lt h)).step (hm _ (List.mem_of_getElem? e)) ?_
    rw [ws_zero, List.getElem?_cons_succ, List.getElem?_map, List.getElem?_eq_getElem hi]
    rfl
theorem rows_small {W : Int} {ws : List Str} {st : List Str × Int × Nat} (h : ∀ c ∈ ws, c.length ≤ 101 ∧ 0 < c.length) (hl : ws.length ≤ 50) (hs : ∀ r ∈ st.1, r.length ≤ 6000) : ∀ i, ∀ r ∈ (twinS W ws st i).1, r.length ≤ 6000
  | 0 => hs
  | i + 1 => by
    have ih := rows_small (W := W) h hl hs i
    rw [twinS_succ]
    unfold tstep
    split
    · intro r hr
      rcases List.mem_append.mp hr with hr | hr
      · exact ih r hr
      · rw [List.mem_singleton.mp hr]
        exact (tw_ok h (by rw [List.length_take, List.length_drop]; exact Nat.le_trans (Nat.min_le_right _ _) (Nat.le_trans (Nat.sub_le _ _) hl)) fun c hc => List.mem_of_mem_drop (List.mem_of_mem_take hc)).2
    · exact ih
theorem MkE.plain {t : Str} (h : MkE t) : ∃ m ∈ sl t, Unicode.isSpace m = false := by
  rcases h with ⟨u, hu⟩ | ⟨u, hu⟩
  · exact ⟨59, by rw [hu]; simp, by decide +kernel⟩
  · exact ⟨44, by rw [hu]; simp, by decide +kernel⟩
theorem twin_law {W head : Int} {t0 : Str} {r : List Str} (h0 : 0 ≤ head) (hm : ∀ t ∈ t0 :: r, MkE t) (hr : ∀ t ∈ t0 :: r, t.length ≤ 100 ∧ PyData.strOk t = true) (hn : (t0 :: r).length ≤ 50) :
    twinP W head (t0 :: r) = Txt.join (Str.ofString "|") (rowsE (foldD W head (cksOf (t0 :: r)))) ∧
    (decide ((foldD W head (cksOf (t0 :: r))).2.2 = 0) && (decide (tlen (nlc (foldD W head (cksOf (t0 :: r))).2.1) = 0) || Txt.isspace (ctxt (nlc (foldD W head (cksOf (t0 :: r))).2.1)))) = false ∧
    JoinOk (Str.ofString "|") (rowsE (foldD W head (cksOf (t0 :: r)))) = true := by
  obtain ⟨b, hb⟩ : ∃ b, b = (decide (0 < head) && decide (W < head + t0.length)) := ⟨_, rfl⟩
  have x := Rel.all h0 hm hb r.length (Nat.lt_succ_self _)
  have hws : (wordsT b (t0 :: r)).length = r.length + 1 := by rw [ws_zero]; simp
  have hwp : ∀ c ∈ wordsT b (t0 :: r), c.length ≤ 101 ∧ 0 < c.length := fun c hc => by
    rw [ws_zero] at hc
    rcases List.mem_cons.mp hc with rfl | hc
    · have h1 := (hr t0 (.head _)).1
      have h2 := (hm t0 (.head _)).pos
      have h3 : (if b = true then Str.ofString " " else Str.ofString "").length ≤ 1 := by cases b <;> decide
      rw [Str.length_append]; (clear hn; lia)
    · obtain ⟨t, ht, rfl⟩ := List.mem_map.mp hc
      have h1 := (hr t (.tail _ ht)).1
      have e1 : (Str.ofString " ").length = 1 := rfl
      rw [Str.length_append, e1]; (clear hn hws e1; lia)
  have hsm : ∀ q ∈ (twinS W (wordsT b (t0 :: r)) ((if b then [Str.ofString ""] else []), (if b then 0 else head), 0) r.length).1, q.length ≤ 6000 := by
    refine rows_small hwp (by rw [hws]; exact hn) ?_ _
    cases b
    · exact fun r hr => no_mem hr
    · exact fun r hr => by rw [List.mem_singleton.mp hr]; decide
  have hll := (foldD_inv (head := head) (W := W) (B := 100) (texts := t0 :: r) h0 (fun c hc => hr c hc) (r.length + 1)).ll
  have hck : (cksOf (t0 :: r)).take (r.length + 1) = cksOf (t0 :: r) := List.take_of_length_le (by simp [cksOf])
  rw [hck] at x hll
  have etw : twinP W head (t0 :: r) = Txt.join (Str.ofString "|") ((twinS W (wordsT b (t0 :: r)) ((if b then [Str.ofString ""] else []), (if b then 0 else head), 0) r.length).1 ++ [Txt.join (Str.ofString "") ((wordsT b (t0 :: r)).drop (twinS W (wordsT b (t0 :: r)) ((if b then [Str.ofString ""] else []), (if b then 0 else head), 0) r.length).2.2)]) := by
    unfold twinP
    dsimp only [List.getElem?_cons_zero, Option.getD_some]
    rw [← hb, hws, Nat.add_sub_cancel]
  rw [etw]
  generalize twinS W (wordsT b (t0 :: r)) ((if b then [Str.ofString ""] else []), (if b then 0 else head), 0) r.length = tw at x hsm
  generalize foldD W head (cksOf (t0 :: r)) = st at x hll
  obtain ⟨LS, cs, n⟩ := st
  obtain ⟨rows, room, start⟩ := tw
  obtain ⟨h1, h2, h3, h4, h5, h6, h7, h8⟩ := x
  dsimp only at h1 h2 h3 h4 h6 h7 h8 hsm hll ⊢
  subst h1 h2
  obtain ⟨c0, last, rfl⟩ := snoc_of (vs := cs) (by intro q; rw [q] at h6; simp at h6; (clear h0 hn hll h5 h3; omega))
  have hlast := h8 last (by simp)
  have hnl : nlc (c0 ++ [last]) = c0 ++ [last] := by
    rw [nlc_snoc, if_neg]
    intro q
    have := hlast.pos
    rw [q] at this
    exact absurd this (by decide)
  have htl : 0 < tlen (c0 ++ [last]) := by
    have h9 := clen_le (cs := c0 ++ [last]) (c := last) (by simp)
    have h10 : clen last = ((last.1.length + last.2.length : Nat) : Int) := rfl
    have := hlast.pos
    (clear h0 hn hll h4 h5 h3 h6; lia)
  have hrow : ctxt (c0 ++ [last]) = Txt.join (Str.ofString "") ((wordsT b (t0 :: r)).drop start) := by
    show Txt.join _ ((c0 ++ [last]).map cone) = _
    rw [h7, List.take_of_length_le (by rw [List.length_drop, hws]; (clear h0 hn hll h4 h5 h3 h6 htl; lia))]
  have hre : rowsE (LS, c0 ++ [last], n) = LS ++ [ctxt (c0 ++ [last])] := by
    unfold rowsE
    dsimp only
    rw [hnl, if_pos (by (clear h0 hn hll h4 h5 h6; lia))]
  rw [hre, hnl]
  refine ⟨by rw [hrow], ?_, ?_⟩
  · have h11 : Txt.isspace (ctxt (c0 ++ [last])) = false := by
      obtain ⟨m, hm1, hm2⟩ := hlast.plain
      have hmm : m ∈ sl (ctxt (c0 ++ [last])) := by
        rw [sl_ctxt]
        exact List.mem_flatten.mpr ⟨_, List.mem_map_of_mem (List.mem_append_right _ (.head _)), List.mem_append_right _ hm1⟩
      refine Bool.eq_false_iff.mpr fun h => ?_
      have h12 : (ctxt (c0 ++ [last])).cps.all Unicode.isSpace = true := by
        unfold Txt.isspace at h
        rw [Bool.and_eq_true] at h
        exact h.2
      rw [← Array.all_toList] at h12
      rw [List.all_eq_true.mp h12 m hmm] at hm2
      cases hm2
    rw [h11, decide_eq_false (p := tlen (c0 ++ [last]) = 0) (by (clear h0 hn hll h4 h5 h6 h11; lia)), Bool.or_false, Bool.and_false]
  · refine tw_rows (fun c hc => ?_) (by rw [List.length_append, List.length_singleton]; rw [List.length_cons] at hn; (clear h0 hb h4 h5 h3 h6 htl; lia))
    rcases List.mem_append.mp hc with hc | hc
    · exact hsm c hc
    · rw [List.mem_singleton.mp hc, hrow]
      exact (tw_ok hwp (by rw [List.length_drop, hws]; rw [List.length_cons] at hn; (clear h0 hb hll h5 h3 h6 htl; omega)) fun c hc => List.mem_of_mem_drop hc).2

section
variable {w : World} {mg mb : Str → Option Value} {mean : ExcName → Option Value} {dp un : Nat} {gd : Option (List Code)} {fr : List Env} {base : Heap} {s : Shared} {Q E : Value → Shared → Prop}
theorem raw_all : ∀ k ∈ List.range 80, ((rawP ((k : Nat) : Int)).length ≤ 50 ∧ (Txt.slice (rawP ((k : Nat) : Int)) none (some 1) != Str.ofString "/") = false ∧ (Txt.slice (rawP ((k : Nat) : Int)) (some 1) (some 2) != Str.ofString "/") = true ∧ (rawP ((k : Nat) : Int)).length ≠ 0) ∧ normR (rawP ((k : Nat) : Int)) = txt (namesP (rawP ((k : Nat) : Int))) ∧ namesP (rawP ((k : Nat) : Int)) ∈ NDs := by decide +kernel
theorem raw_at {n : Int} (h0 : 0 ≤ n) (h80 : n < 80) : ((rawP n).length ≤ 50 ∧ (Txt.slice (rawP n) none (some 1) != Str.ofString "/") = false ∧ (Txt.slice (rawP n) (some 1) (some 2) != Str.ofString "/") = true ∧ (rawP n).length ≠ 0) ∧ normR (rawP n) = txt (namesP (rawP n)) ∧ namesP (rawP n) ∈ NDs := by
  obtain ⟨k, rfl⟩ := Int.eq_ofNat_of_zero_le h0
  exact raw_all k (List.mem_range.mpr (by omega))
noncomputable def fileOf (n : Int) : Itm := (namesP (rawP n), 1 + n % 5)
theorem fileOf_ok {n : Int} (h0 : 0 ≤ n) (h80 : n < 80) : (fileOf n).1 ∈ NDs ∧ 0 < (fileOf n).2 ∧ (fileOf n).2 ≤ 5 := by
  refine ⟨(raw_at h0 h80).2.2, ?_, ?_⟩
  · show 0 < 1 + n % 5
    (clear h0 h80; lia)
  · show 1 + n % 5 ≤ 5
    (clear h0 h80; lia)
theorem wt_le {F : List Itm} {v : List Str} (h : ∀ p ∈ F, 0 < p.2 ∧ p.2 ≤ 5) : 0 ≤ wt F v ∧ wt F v ≤ 5 * (F.length : Int) := by
  induction F with
  | nil => exact ⟨Int.le_refl _, Int.le_refl _⟩
  | cons p F ih =>
    have h1 := ih fun q hq => h q (.tail _ hq)
    have h2 := h p (.head _)
    rw [wt_cons, List.length_cons]
    split <;> lia
theorem strOk_app {a b : Str} (ha : PyData.strOk a = true) (hb : PyData.strOk b = true) : PyData.strOk (a ++ b) = true := by
  show (a.cps ++ b.cps).all _ = true
  rw [Array.all_append]
  exact Bool.and_eq_true_iff.mpr ⟨ha, hb⟩
theorem num_small : ∀ k ∈ List.range 41, (Str.ofString (toString ((k : Nat) : Int))).length ≤ 3 ∧ PyData.strOk (Str.ofString (toString ((k : Nat) : Int))) = true := by decide +kernel
theorem nd_ok : ∀ v ∈ NDs, PyData.strOk (txt v) = true := by decide +kernel
theorem text_ok {v : List Str} (hv : v ∈ NDs) {k : Int} (h0 : 0 ≤ k) (h40 : k ≤ 40) (c : Bool) : MkE (txt v ++ Str.ofString "=" ++ Str.ofString (toString k) ++ (if c = true then Str.ofString ";" else Str.ofString ",")) ∧ (txt v ++ Str.ofString "=" ++ Str.ofString (toString k) ++ (if c = true then Str.ofString ";" else Str.ofString ",")).length ≤ 100 ∧ PyData.strOk (txt v ++ Str.ofString "=" ++ Str.ofString (toString k) ++ (if c = true then Str.ofString ";" else Str.ofString ",")) = true := by
  obtain ⟨j, rfl⟩ := Int.eq_ofNat_of_zero_le h0
  obtain ⟨n1, n2⟩ := num_small j (List.mem_range.mpr (by omega))
  have l1 := (nd_one v hv).2.2.2.2.1
  have hc : MkE (if c = true then Str.ofString ";" else Str.ofString ",") ∧ (if c = true then Str.ofString ";" else Str.ofString ",").length = 1 ∧ PyData.strOk (if c = true then Str.ofString ";" else Str.ofString ",") = true := by
    cases c with
    | true => exact ⟨.inl ⟨[], by decide +kernel⟩, by decide +kernel, by decide +kernel⟩
    | false => exact ⟨.inr ⟨[], by decide +kernel⟩, by decide +kernel, by decide +kernel⟩
  refine ⟨hc.1.elim (fun h => .inl (h.app _)) (fun h => .inr (h.app _)), ?_, strOk_app (strOk_app (strOk_app (nd_ok v hv) (by decide +kernel)) n2) hc.2.2⟩
  have e1 : (Str.ofString "=").length = 1 := rfl
  rw [Str.length_append, Str.length_append, Str.length_append, hc.2.1, e1]
  (clear h0 h40 n2 hc e1; lia)
theorem rows_at {F : List Itm} {r : Row} (h : r ∈ toldRows F) : ∃ v ∈ NDs, r = itemR (v, wt F v) := by
  obtain ⟨v, hv, rfl⟩ := List.mem_map.mp h
  exact ⟨v, (List.mem_filter.mp hv).1, rfl⟩
theorem texts_ok {F : List Itm} (hF : ∀ p ∈ F, 0 < p.2 ∧ p.2 ≤ 5) (hn : F.length ≤ 8) : ∀ t ∈ textsP (toldRows F), MkE t ∧ t.length ≤ 100 ∧ PyData.strOk t = true := fun t ht => by
  obtain ⟨i, hi⟩ := List.getElem?_of_mem ht
  cases e : (toldRows F)[i]? with
  | none =>
    have : (textsP (toldRows F)).length ≤ i := by simp [textsP, List.getElem?_eq_none_iff.mp e]
    rw [List.getElem?_eq_none this] at hi
    cases hi
  | some r =>
    rw [textsP_at e] at hi
    obtain ⟨v, hv, rfl⟩ := rows_at (List.mem_of_getElem? e)
    have h1 := wt_le (v := v) hF
    cases hi
    exact text_ok hv h1.1 (by lia) _
theorem rows_len (F : List Itm) : (toldRows F).length ≤ 13 := by
  unfold toldRows
  rw [List.length_map]
  exact Nat.le_trans (List.length_filter_le _ _) (Nat.le_of_ble_eq_true rfl)
theorem alive_in {F : List Itm} {p : Itm} (h : p ∈ F) (hp : p.1 ∈ NDs) : alive F p.1 = true := List.any_eq_true.mpr ⟨p, h, (nd_one _ hp).2.2.1⟩
theorem two_alive {F : List Itm} (h1 : fileOf 12 ∈ F) (h2 : fileOf 26 ∈ F) : 2 ≤ (NDs.filter (alive F)).length := by
  have e1 : (fileOf 12).1 ∈ NDs := (fileOf_ok (by decide) (by decide)).1
  have e2 : (fileOf 26).1 ∈ NDs := (fileOf_ok (by decide) (by decide)).1
  have hs : [(fileOf 12).1, (fileOf 26).1].Sublist NDs := by decide +kernel
  have := (hs.filter (alive F)).length_le
  rwa [List.filter_cons_of_pos (alive_in h1 e1), List.filter_cons_of_pos (alive_in h2 e2), List.filter_nil] at this

end
section
variable {w : World} {mg mb : Str → Option Value} {mean : ExcName → Option Value} {dp un : Nat} {gd : Option (List Code)} {fr : List Env} {base : Heap} {s : Shared} {Q E : Value → Shared → Prop}
theorem fmodP (n k : Int) (h : 0 ≤ k) : Int.fmod n k = n % k := Int.fmod_eq_emod_of_nonneg n h
noncomputable def RawsIn (ex : List (Addr × Obj)) (ys : List Value) (ns : List Int) : Prop := ys.length = ns.length ∧ ∀ (j : Nat) (n : Int), ns[j]? = some n → ∃ T t1 t2, ys[j]? = some (Value.ref T) ∧ (T, tupOf [.str (rawP n) t1, .int (1 + n % 5) t2] 0) ∈ ex
theorem RawsIn.snoc {ex : List (Addr × Obj)} {ys : List Value} {ns : List Int} (x : RawsIn ex ys ns) (T : Addr) (n : Int) (t1 t2 : Tok) : RawsIn ((T, tupOf [.str (rawP n) t1, .int (1 + n % 5) t2] 0) :: ex) (ys ++ [Value.ref T]) (ns ++ [n]) := by
  refine ⟨by rw [List.length_append, List.length_append, x.1, List.length_singleton, List.length_singleton], fun j m hm => ?_⟩
  by_cases hj : j < ns.length
  · rw [List.getElem?_append_left hj] at hm
    obtain ⟨T', a, b, h1, h2⟩ := x.2 j m hm
    exact ⟨T', a, b, by rw [List.getElem?_append_left (by rw [x.1]; exact hj)]; exact h1, .tail _ h2⟩
  · have e : j = ns.length := by
      have := (List.getElem?_eq_some_iff.mp hm).1
      rw [List.length_append, List.length_singleton] at this
      lia
    subst e
    rw [List.getElem?_append_right (Nat.le_refl _), Nat.sub_self] at hm
    cases hm
    exact ⟨T, t1, t2, by rw [← x.1, List.getElem?_append_right (Nat.le_refl _), Nat.sub_self]; rfl, .head _⟩
theorem law_spec
  {sc : Addr} {svs : List Value} {ns : List Int} {ps qs : Array Value} {R : Result → Shared → Prop}
  (X : (Mine.heapK w.params).In base) (T : Top topProg GL mean mg mb base) (hS : base.StaysIn s.heap) (G : AllBare s.gens)
  (hsc : base.IsList sc svs.toArray) (hI : PyProof.Rows.IntsAre svs ns) (hz : svs.length ≤ sizeLine)
  (h140 : s.heap.get? 140 = some (tabObj ps)) (hb140 : base.get? 140 = none) (ht140 : TabOk posLen ps) (h147 : s.heap.get? 147 = some (tabObj qs)) (hb147 : base.get? 147 = none) (ht147 : TabOk posStr qs)
  (hdp : dp < 310) (hu : un < 100)
  (ret : ∀ h' g' tk', Keep [140, 147] s.heap h' → (∃ ps' qs', h'.get? 140 = some (tabObj ps') ∧ TabOk posLen ps' ∧ h'.get? 147 = some (tabObj qs') ∧ TabOk posStr qs') → AllBare g' → R (.ok (.ret (.bool true))) { s with heap := h', gens := g', toks := tk' }) :
  codeAny (model PySem.Challenge.rw_ik0220_02.row.prog w) (amb dp un gd fr) (.call (.ref 373) ⟨[.ref sc], []⟩) R s := by
  revert X; k_fill; intro X
  have XS := X.keeps hS
  k_dflt (refine' enterF [(Str.ofString "script", .ref sc)] [(140, tabObj ps), (147, tabObj qs)] ?kX ?kT hS ?kD ?kho ?khcd ?kroom ?kb ?kl ?kr ?_ ?c1 ?c2 ?c3 ?c4; (
  (case kX => assumption); (case kT => assumption); (case kho => k_is); (case khcd => k_is); (case kb => first | exact BindsTo.of_eq rfl | exact binds_K (by k_in) rfl (by k_is) rfl rfl rfl);
  (case kl => exact locs rfl); (case kr => exact rfl); (case c1 => exact rfl); (case c2 => exact rfl); (case c3 => exact rfl); (case c4 => first | decide | exact fun _ => rfl); (case kroom => first | exact rm0 hdp rfl | (simp only [recursionLimit]; omega))); (case kD => intro q hq'; rcases List.mem_cons.mp hq' with rfl | hq'; exact ⟨h140, hb140⟩; rcases List.mem_singleton.mp hq' with rfl; exact ⟨h147, hb147⟩))
  intro g L h1 fr' tk F N X1 T1 KP LTs
  refine (let aA := _; let eN := _; let qk := _; let ek := _; (?_ : wpAny _ aA (execs _ eN) qk ek _))
  clear XS
  have hscg : g.IsList sc svs.toArray := by
    obtain ⟨o, e, r⟩ := hsc
    refine ⟨o, KP _ _ (fun hm => ?_) (hS _ _ e), r⟩
    simp only [List.map_cons, List.map_nil, List.mem_cons, List.not_mem_nil, or_false] at hm
    rcases hm with rfl | rfl
    · rw [hb140] at e; cases e
    · rw [hb147] at e; cases e
  (repeat' (first | (fail_if_success with_reducible refine Nf.go (by constructor) ?_); (fail_if_success fail_if_success with_reducible refine Fd.go (by constructor) ?_; k_fold); refine (let qk := _; let ek := _; (?_ : wpAny _ _ _ qk ek _)) | (fail_if_success fail_if_success k_unfold); (first | with_reducible refine (?_ : wpAny _ _ _ _ _ _) | k_unfold); (try dsimp only); try clear qk ek | (fail_if_success with_reducible refine Stop.go (by constructor) ?_); first | walk1 | dsimp only; walk1))
  refine PyProof.Rows.LCg.Assign_ListComp_U F rfl (cl := []) (by with_unfolding_all rfl) (by with_unfolding_all rfl) (by decide) (by with_unfolding_all rfl) (by decide) (by with_unfolding_all rfl) (by with_unfolding_all rfl) (by with_unfolding_all rfl) ?_ (fun _ => by with_unfolding_all rfl)
  (repeat' (first | (fail_if_success with_reducible refine Nf.go (by constructor) ?_); (fail_if_success fail_if_success with_reducible refine Fd.go (by constructor) ?_; k_fold); refine (let qk := _; let ek := _; (?_ : wpAny _ _ _ qk ek _)) | (fail_if_success fail_if_success k_unfold); (first | with_reducible refine (?_ : wpAny _ _ _ _ _ _) | k_unfold); (try dsimp only); try clear qk ek | (fail_if_success with_reducible refine Stop.go (by constructor) ?_); first | walk1 | dsimp only; walk1))
  refine slice_new (by with_unfolding_all rfl) (lo := none) (hi := some 6) F N (hscg.at (fun o e => F.keep _ o e)) .none (.int _ _) hz fun q2 sl2 h2 F2 N2 l2 => ?_
  rw [show (some 6 : Option Int) = some ((6 : Nat) : Int) from rfl, slicePick_upto' svs.toArray 6] at N2
  have hns : ns.length = svs.length := hI.length.symm
  refine src_same (l := q2) (vs := svs.take 6) (k := 0) (fun i ys => PyProof.Rows.IntsAre ys (((ns.take 6).take i).map (· % 80))) rfl F2 N2 .nil (by rw [List.length_take]; (clear hz hdp hu; lia)) (.head _) (fun i v ys I oI C oC D m₂ h tk E' hv hC hx F9 N9 off ne hys => ?_) fun g9 yd hyd => ?_
  · obtain ⟨n, tn, rfl, hnn⟩ := (hI.take 6).at i v hv
    (repeat' (first | (fail_if_success with_reducible refine Nf.go (by constructor) ?_); (fail_if_success fail_if_success with_reducible refine Fd.go (by constructor) ?_; k_fold); refine (let qk := _; let ek := _; (?_ : wpAny _ _ _ qk ek _)) | (fail_if_success fail_if_success k_unfold); (first | with_reducible refine (?_ : wpAny _ _ _ _ _ _) | k_unfold); (try dsimp only); try clear qk ek | (fail_if_success with_reducible refine Stop.go (by constructor) ?_); first | walk1 | dsimp only; walk1))
    exact PyProof.Rows.LCg.CompEnd.intro F9 N9 _ (fun p hp => hp) off trivial ⟨rfl, by rw [take_succ_at hnn, List.map_append, fmodP _ _ (by decide)]; exact hys.append (ints_one _ _)⟩
  · intro DR hR tR F9 N9 offR
    rw [show (svs.take 6).length = (ns.take 6).length by rw [List.length_take, List.length_take, hns], List.take_length] at hyd
    have hq2 : @LT.lt Nat _ 147 q2 := l2 _ (.tail _ (.head _))
    generalize hdr : (ns.take 6).map (· % 80) = dr at hyd
    have hdrl : dr.length ≤ 6 := by rw [← hdr, List.length_map, List.length_take]; (clear hz hdp hu hq2; lia)
    have hdr7 : ∀ x ∈ dr, 0 ≤ x ∧ x < 80 := fun x hx => by
      rw [← hdr] at hx
      obtain ⟨y, -, rfl⟩ := List.mem_map.mp hx
      exact ⟨Int.emod_nonneg _ (by decide), Int.emod_lt_of_pos _ (by decide)⟩
    clear hdr N2 F2 l2
    (repeat' (first | (fail_if_success with_reducible refine Nf.go (by constructor) ?_); (fail_if_success fail_if_success with_reducible refine Fd.go (by constructor) ?_; k_fold); refine (let qk := _; let ek := _; (?_ : wpAny _ _ _ qk ek _)) | (fail_if_success fail_if_success k_unfold); (first | with_reducible refine (?_ : wpAny _ _ _ _ _ _) | k_unfold); (try dsimp only); try clear qk ek | (fail_if_success with_reducible refine Stop.go (by constructor) ?_); first | walk1 | dsimp only; walk1))
    refine PyProof.Rows.LCg.Assign_ListComp_U F9 rfl (cl := []) (by with_unfolding_all rfl) (by with_unfolding_all rfl) (by decide) (by with_unfolding_all rfl) (by decide) (by with_unfolding_all rfl) (by with_unfolding_all rfl) (by with_unfolding_all rfl) ?_ (fun _ => by with_unfolding_all rfl)
    (repeat' (first | (fail_if_success with_reducible refine Nf.go (by constructor) ?_); (fail_if_success fail_if_success with_reducible refine Fd.go (by constructor) ?_; k_fold); refine (let qk := _; let ek := _; (?_ : wpAny _ _ _ qk ek _)) | (fail_if_success fail_if_success k_unfold); (first | with_reducible refine (?_ : wpAny _ _ _ _ _ _) | k_unfold); (try dsimp only); try clear qk ek | (fail_if_success with_reducible refine Stop.go (by constructor) ?_); first | walk1 | dsimp only; walk1))
    rename_i lA hA0 oA D2 ws2 h5 F5 N5 hI5 oD2
    have hws2 := hI5.length
    rw [List.length_append] at hws2
    have hkn : ∀ x ∈ [12, 26] ++ dr, 0 ≤ x ∧ x < 80 := fun x hx => by
      rcases List.mem_append.mp hx with hx | hx
      · simp at hx; (clear hz hdp hu hns hq2 hdrl oA oD2 hws2; lia)
      · exact hdr7 x hx
    have hkm : 12 ∈ [12, 26] ++ dr ∧ 26 ∈ [12, 26] ++ dr := ⟨by simp, by simp⟩
    have hkl : ([12, 26] ++ dr).length ≤ 8 := by rw [List.length_append]; simp; (clear hz hdp hu hq2 oA oD2; lia)
    have hw8 : ws2.length = ([12, 26] ++ dr).length := hI5.length
    have hdl : yd.length = dr.length := hyd.length
    generalize ([12, 26] ++ dr : List Int) = kn at hI5 hkn hkm hkl hw8
    have N5 := News.sub (news' := [(D2, listOf ws2.toArray 0), (DR, listOf yd.toArray yd.length), (140, tabObj ps), (147, tabObj qs)]) N5 (by ((try simp only [List.cons_append, List.nil_append]); repeat' (first | exact .head _ | refine .tail _ ?_ | exact List.forall_mem_nil _ | refine List.forall_mem_cons.mpr ⟨?_, ?_⟩ | assumption | intro _ _)))
    clear hws2 oA oD2
    refine src_news (l := D2) (vs := ws2) (k := 0) (fun i ys nw => (∀ p ∈ [(D2, listOf ws2.toArray 0), (DR, listOf yd.toArray yd.length), (140, tabObj ps), (147, tabObj qs)], p ∈ nw) ∧ RawsIn nw ys (kn.take i)) rfl F5 N5 ⟨fun _ h => h, rfl, fun j n hj => by simp at hj⟩ (by (clear hz hdp hu hns hq2 hdrl hdl; lia)) (fun i ys nw h => h.1 _ (.head _)) (fun i v ys nw I oI C oC D m₂ h tk E' hv hC hx F9 N9 off ne hys => ?_) fun g9 ys nw hys => ?_
    · obtain ⟨hnw, hys⟩ := hys
      obtain ⟨n, tn, rfl, hnn⟩ := hI5.at i v hv
      obtain ⟨hn0, hn8⟩ := hkn n (List.mem_of_getElem? hnn)
      have hrl := (raw_at hn0 hn8).1.1
      clear F5 N5
      (repeat' (first | (fail_if_success with_reducible refine Nf.go (by constructor) ?_); (fail_if_success fail_if_success with_reducible refine Fd.go (by constructor) ?_; k_fold); refine (let qk := _; let ek := _; (?_ : wpAny _ _ _ qk ek _)) | (fail_if_success fail_if_success k_unfold); (first | with_reducible refine (?_ : wpAny _ _ _ _ _ _) | k_unfold); (try dsimp only); try clear qk ek | (fail_if_success with_reducible refine Stop.go (by constructor) ?_); first | walk1 | dsimp only; walk1))
      refine raw_spec X1 T1 F9.keep hn0 hn8 (by omega) (by omega) fun h7 tk7 t7 k7 => ?_
      have F8 := Mine.Fr.kept (h' := h7) (D := []) F9 k7 (fun b hb => no_mem hb) (fun hb => no_mem hb)
      have N8 := News.kept (h' := h7) (D := []) N9 k7 (fun p hp hb => no_mem hb)
      clear F9 N9
      (repeat' (first | (fail_if_success with_reducible refine Nf.go (by constructor) ?_); (fail_if_success fail_if_success with_reducible refine Fd.go (by constructor) ?_; k_fold); refine (let qk := _; let ek := _; (?_ : wpAny _ _ _ qk ek _)) | (fail_if_success fail_if_success k_unfold); (first | with_reducible refine (?_ : wpAny _ _ _ _ _ _) | k_unfold); (try dsimp only); try clear qk ek | (fail_if_success with_reducible refine Stop.go (by constructor) ?_); first | walk1 | dsimp only; walk1))
      rename_i TD h9 FT NT lT
      obtain ⟨b1, b2, b3, b4⟩ := lT
      have e5 : Int.fmod n 5 = n % 5 := fmodP _ _ (by decide)
      rw [e5] at NT
      refine PyProof.Rows.LCg.CompEnd.intro FT NT ((TD, tupOf [.str (rawP n) t7, .int (1 + n % 5) (tk7 + 1 + 1 + 1)] 0) :: nw) ?_ ⟨⟨Nat.ne_of_gt b1, Nat.ne_of_gt b2, Nat.ne_of_gt b3⟩, off⟩ trivial ⟨fun p hp => .tail _ (hnw p hp), by rw [take_succ_at hnn]; exact hys.snoc TD n _ _⟩
      exact List.forall_mem_cons.mpr ⟨.tail _ (.head _), List.forall_mem_cons.mpr ⟨.tail _ (.tail _ (.head _)), List.forall_mem_cons.mpr ⟨.tail _ (.tail _ (.tail _ (.head _))), List.forall_mem_cons.mpr ⟨.head _, fun p hp => .tail _ (.tail _ (.tail _ (.tail _ hp)))⟩⟩⟩⟩
    · intro DQ hQ tQ FQ NQ offQ
      obtain ⟨hnw, hys⟩ := hys
      rw [hw8, List.take_length] at hys
      have NQ := News.sub (news' := (DQ, LCg.lst ys) :: (DR, listOf yd.toArray yd.length) :: (140, tabObj ps) :: (147, tabObj qs) :: nw) NQ (List.forall_mem_cons.mpr ⟨.head _, List.forall_mem_cons.mpr ⟨.tail _ (hnw _ (.tail _ (.head _))), List.forall_mem_cons.mpr ⟨.tail _ (hnw _ (.tail _ (.tail _ (.head _)))), List.forall_mem_cons.mpr ⟨.tail _ (hnw _ (.tail _ (.tail _ (.tail _ (.head _))))), fun p hp => .tail _ hp⟩⟩⟩⟩)
      clear F5 N5 offQ hnw
      dsimp only
      (repeat' (first | (fail_if_success with_reducible refine Nf.go (by constructor) ?_); (fail_if_success fail_if_success with_reducible refine Fd.go (by constructor) ?_; k_fold); refine (let qk := _; let ek := _; (?_ : wpAny _ _ _ qk ek _)) | (fail_if_success fail_if_success k_unfold); (first | with_reducible refine (?_ : wpAny _ _ _ _ _ _) | k_unfold); (try dsimp only); try clear qk ek | (fail_if_success with_reducible refine Stop.go (by constructor) ?_); first | walk1 | dsimp only; walk1))
      have hyl : ys.length = kn.length := hys.1
      have hFk : ∀ p ∈ kn.map fileOf, p.1 ∈ NDs ∧ 0 < p.2 := fun p hp => by
        obtain ⟨n, hn, rfl⟩ := List.mem_map.mp hp
        exact ⟨(fileOf_ok (hkn n hn).1 (hkn n hn).2).1, (fileOf_ok (hkn n hn).1 (hkn n hn).2).2.1⟩
      refine PyProof.Rows.LCp.ListComp_P FQ (cl := []) (by with_unfolding_all rfl) (by decide) (by with_unfolding_all rfl) (by decide) (by with_unfolding_all rfl) (by with_unfolding_all rfl) (by decide) ?_ (fun _ => by with_unfolding_all rfl)
      (repeat' (first | (fail_if_success with_reducible refine Nf.go (by constructor) ?_); (fail_if_success fail_if_success with_reducible refine Fd.go (by constructor) ?_; k_fold); refine (let qk := _; let ek := _; (?_ : wpAny _ _ _ qk ek _)) | (fail_if_success fail_if_success k_unfold); (first | with_reducible refine (?_ : wpAny _ _ _ _ _ _) | k_unfold); (try dsimp only); try clear qk ek | (fail_if_success with_reducible refine Stop.go (by constructor) ?_); first | walk1 | dsimp only; walk1))
      refine srcP (l := DQ) (vs := ys) (fun i zs nw' => (∀ p ∈ (DQ, LCg.lst ys) :: (DR, listOf yd.toArray yd.length) :: (140, tabObj ps) :: (147, tabObj qs) :: nw, p ∈ nw') ∧ ∀ h', (∀ b ob, g.get? b = some ob → h'.get? b = some ob) → (∀ p ∈ nw', h'.get? p.1 = some p.2) → AllAt (TupAt h') zs (((kn.take i).map fileOf).map fileD)) rfl FQ NQ ⟨fun _ h => h, fun _ _ _ => .nil⟩ (by (clear hz hdp hu hns hq2 hdrl hdl; lia)) (fun i zs nw' j => j.1 _ (.head _)) (fun g9 i v zs nw' hv j => ?_) fun g9 zs nw' j => ?_
      · obtain ⟨hsub, hz⟩ := j
        have hi : i < kn.length := by rw [← hyl]; exact (List.getElem?_eq_some_iff.mp hv).1
        obtain ⟨n, hn⟩ : ∃ n, kn[i]? = some n := ⟨_, List.getElem?_eq_getElem hi⟩
        obtain ⟨T9, t1, t2, e1, e2⟩ := hys.2 i n hn
        rw [hv] at e1
        cases e1
        obtain ⟨hn0, hn8⟩ := hkn n (List.mem_of_getElem? hn)
        obtain ⟨⟨r1, r2, r3, r4⟩, r5, -⟩ := raw_at hn0 hn8
        refine ⟨T9, _, _, _, _, rfl, hsub _ (.tail _ (.tail _ (.tail _ (.tail _ e2)))), rfl, rfl, fun I oI C oC D m₂ h tk E' hC hx1 hx2 F9 N9 off ne => ?_⟩
        clear FQ NQ
        (repeat' (first | (fail_if_success with_reducible refine Nf.go (by constructor) ?_); (fail_if_success fail_if_success with_reducible refine Fd.go (by constructor) ?_; k_fold); refine (let qk := _; let ek := _; (?_ : wpAny _ _ _ qk ek _)) | (fail_if_success fail_if_success k_unfold); (first | with_reducible refine (?_ : wpAny _ _ _ _ _ _) | k_unfold); (try dsimp only); try clear qk ek | (fail_if_success with_reducible refine Stop.go (by constructor) ?_); first | walk1 | dsimp only; walk1))
        refine norm2_spec X1 T1 F9.keep (by (clear hdp hu hns hq2 hdrl hdl hkl hw8 hyl hi hn0 hn8 r2 r3 r4 ne; lia)) r2 r3 r4 (by omega) (by omega) fun h7 tk7 t7 k7 => ?_
        rw [r5]
        have F8 := Mine.Fr.kept (h' := h7) (D := []) F9 k7 (fun b hb => no_mem hb) (fun hb => no_mem hb)
        have N8 := News.kept (h' := h7) (D := []) N9 k7 (fun p hp hb => no_mem hb)
        clear F9 N9
        (repeat' (first | (fail_if_success with_reducible refine Nf.go (by constructor) ?_); (fail_if_success fail_if_success with_reducible refine Fd.go (by constructor) ?_; k_fold); refine (let qk := _; let ek := _; (?_ : wpAny _ _ _ qk ek _)) | (fail_if_success fail_if_success k_unfold); (first | with_reducible refine (?_ : wpAny _ _ _ _ _ _) | k_unfold); (try dsimp only); try clear qk ek | (fail_if_success with_reducible refine Stop.go (by constructor) ?_); first | walk1 | dsimp only; walk1))
        rename_i TD h9 FT NT lT
        obtain ⟨b1, b2, b3, b4⟩ := lT
        refine PyProof.Rows.LCg.CompEnd.intro FT NT ((TD, tupOf [.str (txt (namesP (rawP n))) t7, .int (1 + n % 5) t2] 0) :: nw') ?_ ⟨⟨Nat.ne_of_gt b1, Nat.ne_of_gt b2, Nat.ne_of_gt b3⟩, off⟩ trivial ⟨fun p hp => .tail _ (hsub p hp), fun h' k x => ?_⟩
        · exact List.forall_mem_cons.mpr ⟨.tail _ (.head _), List.forall_mem_cons.mpr ⟨.tail _ (.tail _ (.head _)), List.forall_mem_cons.mpr ⟨.tail _ (.tail _ (.tail _ (.head _))), List.forall_mem_cons.mpr ⟨.head _, fun p hp => .tail _ (.tail _ (.tail _ (.tail _ hp)))⟩⟩⟩⟩
        · rw [take_succ_at hn, List.map_append, List.map_append]
          exact (hz h' k fun p hp => x p (.tail _ hp)).append (.cons ⟨TD, _, 0, rfl, x _ (.head _), .cons (.s _ _) (.cons (.i _ _) .nil)⟩ .nil)
      · obtain ⟨hsub, hz⟩ := j
        intro DA hA tA FA NA offA
        rw [hyl, List.take_length] at hz
        clear FQ NQ
        (repeat' (first | (fail_if_success with_reducible refine Nf.go (by constructor) ?_); (fail_if_success fail_if_success with_reducible refine Fd.go (by constructor) ?_; k_fold); refine (let qk := _; let ek := _; (?_ : wpAny _ _ _ qk ek _)) | (fail_if_success fail_if_success k_unfold); (first | with_reducible refine (?_ : wpAny _ _ _ _ _ _) | k_unfold); (try dsimp only); try clear qk ek | (fail_if_success with_reducible refine Stop.go (by constructor) ?_); first | walk1 | dsimp only; walk1))
        refine told_spec (kf := zs.length) X1 T1 FA.keep (NA _ (.head _)).1 (NA _ (.head _)).2.2 (hz _ FA.keep fun p hp => (NA p (.tail _ hp)).1) hFk (by rw [List.length_map]; (clear hdp hu hns hq2 hdrl hdl; lia)) (by omega) (by omega) fun h8 tk8 DT tvs kt k8 fT eT A8 => ?_
        have F8 := Mine.Fr.kept (h' := h8) (D := []) FA k8 (fun b hb => no_mem hb) (fun hb => no_mem hb)
        have N8 := News.kept (h' := h8) (D := []) NA k8 (fun p hp hb => no_mem hb)
        obtain ⟨ex, hex, Nx, cx⟩ := all_tail2 F8 A8
        have gT : g.get? DT = none := by
          cases eg : g.get? DT with
          | none => rfl
          | some oP => have := FA.keep _ _ eg; rw [this] at fT; cases fT
        have N9 : News g L h8 ((DT, listOf tvs.toArray kt) :: (DQ, LCg.lst ys) :: (DR, listOf yd.toArray yd.length) :: (140, tabObj ps) :: (147, tabObj qs) :: (ex ++ nw)) := News.cons (fun p hp => by
          rcases List.mem_cons.mp hp with rfl | hp
          · exact N8 _ (.tail _ (hsub _ (.head _)))
          · rcases List.mem_cons.mp hp with rfl | hp
            · exact N8 _ (.tail _ (hsub _ (.tail _ (.head _))))
            · rcases List.mem_cons.mp hp with rfl | hp
              · exact N8 _ (.tail _ (hsub _ (.tail _ (.tail _ (.head _)))))
              · rcases List.mem_cons.mp hp with rfl | hp
                · exact N8 _ (.tail _ (hsub _ (.tail _ (.tail _ (.tail _ (.head _))))))
                · rcases List.mem_append.mp hp with hp | hp
                  · exact Nx p hp
                  · exact N8 _ (.tail _ (hsub p (.tail _ (.tail _ (.tail _ (.tail _ hp))))))) eT gT (list_ne_L F8 eT)
        clear FA NA offA N8 hsub hz A8 Nx
        (repeat' (first | (fail_if_success with_reducible refine Nf.go (by constructor) ?_); (fail_if_success fail_if_success with_reducible refine Fd.go (by constructor) ?_; k_fold); refine (let qk := _; let ek := _; (?_ : wpAny _ _ _ qk ek _)) | (fail_if_success fail_if_success k_unfold); (first | with_reducible refine (?_ : wpAny _ _ _ _ _ _) | k_unfold); (try dsimp only); try clear qk ek | (fail_if_success with_reducible refine Stop.go (by constructor) ?_); first | walk1 | dsimp only; walk1))
        rename Heap => h10; rename Fr _ _ _ _ => F10; rename News _ _ _ _ => N10
        refine PyProof.Rows.LCp.ListComp_P F10 (cl := []) (by with_unfolding_all rfl) (by decide) (by with_unfolding_all rfl) (by decide) (by with_unfolding_all rfl) (by with_unfolding_all rfl) (by decide) ?_ (fun _ => by with_unfolding_all rfl)
        (repeat' (first | (fail_if_success with_reducible refine Nf.go (by constructor) ?_); (fail_if_success fail_if_success with_reducible refine Fd.go (by constructor) ?_; k_fold); refine (let qk := _; let ek := _; (?_ : wpAny _ _ _ qk ek _)) | (fail_if_success fail_if_success k_unfold); (first | with_reducible refine (?_ : wpAny _ _ _ _ _ _) | k_unfold); (try dsimp only); try clear qk ek | (fail_if_success with_reducible refine Stop.go (by constructor) ?_); first | walk1 | dsimp only; walk1))
        refine srcP (l := DQ) (vs := ys) (fun i zs nw' => (∀ p ∈ (DT, listOf tvs.toArray kt) :: (DQ, LCg.lst ys) :: (DR, listOf yd.toArray yd.length) :: (140, tabObj ps) :: (147, tabObj qs) :: (ex ++ nw), p ∈ nw') ∧ ∀ h', (∀ b ob, g.get? b = some ob → h'.get? b = some ob) → (∀ p ∈ nw', h'.get? p.1 = some p.2) → AllAt (NmAt h') zs (((kn.take i).map fileOf).map fileN)) rfl F10 N10 ⟨fun _ h => h, fun _ _ _ => .nil⟩ (by (clear hz hdp hu hns hq2 hdrl hdl; omega)) (fun i zs nw' j => j.1 _ (.tail _ (.head _))) (fun g9 i v zs nw' hv j => ?_) fun g9 zs nw' j => ?_
        · obtain ⟨hsub, hz⟩ := j
          have hi : i < kn.length := by rw [← hyl]; exact (List.getElem?_eq_some_iff.mp hv).1
          obtain ⟨n, hn⟩ : ∃ n, kn[i]? = some n := ⟨_, List.getElem?_eq_getElem hi⟩
          obtain ⟨T9, t1, t2, e1, e2⟩ := hys.2 i n hn
          rw [hv] at e1
          cases e1
          obtain ⟨hn0, hn8⟩ := hkn n (List.mem_of_getElem? hn)
          obtain ⟨⟨r1, r2, r3, r4⟩, -, -⟩ := raw_at hn0 hn8
          refine ⟨T9, _, _, _, _, rfl, hsub _ (.tail _ (.tail _ (.tail _ (.tail _ (.tail _ (List.mem_append_right _ e2)))))), rfl, rfl, fun I oI C oC D m₂ h tk E' hC hx1 hx2 F9 N9 off ne => ?_⟩
          clear F10 N10
          (repeat' (first | (fail_if_success with_reducible refine Nf.go (by constructor) ?_); (fail_if_success fail_if_success with_reducible refine Fd.go (by constructor) ?_; k_fold); refine (let qk := _; let ek := _; (?_ : wpAny _ _ _ qk ek _)) | (fail_if_success fail_if_success k_unfold); (first | with_reducible refine (?_ : wpAny _ _ _ _ _ _) | k_unfold); (try dsimp only); try clear qk ek | (fail_if_success with_reducible refine Stop.go (by constructor) ?_); first | walk1 | dsimp only; walk1))
          refine names_spec X1 T1 F9.keep (by (clear hdp hu hns hq2 hdrl hdl hkl hw8 hyl hi hn0 hn8 r2 r3 r4 ne; lia)) (by omega) (by omega) fun h7 tk7 DN kvs kk k7 fN eN hS => ?_
          have F8 := Mine.Fr.kept (h' := h7) (D := []) F9 k7 (fun b hb => no_mem hb) (fun hb => no_mem hb)
          have gN : g.get? DN = none := by
            cases eg : g.get? DN with
            | none => rfl
            | some oP => have := F9.keep _ _ eg; rw [this] at fN; cases fN
          have hne : ∀ p ∈ (I, oI) :: (C, oC) :: (D, LCg.lst zs) :: nw', @Ne Nat DN p.1 := fun p hp e => by
            have := (N9 p hp).1
            rw [← e, fN] at this
            cases this
          have N8 := News.cons (News.kept (h' := h7) (D := []) N9 k7 (fun p hp hb => no_mem hb)) eN gN (list_ne_L F8 eN)
          clear F9 N9
          (repeat' (first | (fail_if_success with_reducible refine Nf.go (by constructor) ?_); (fail_if_success fail_if_success with_reducible refine Fd.go (by constructor) ?_; k_fold); refine (let qk := _; let ek := _; (?_ : wpAny _ _ _ qk ek _)) | (fail_if_success fail_if_success k_unfold); (first | with_reducible refine (?_ : wpAny _ _ _ _ _ _) | k_unfold); (try dsimp only); try clear qk ek | (fail_if_success with_reducible refine Stop.go (by constructor) ?_); first | walk1 | dsimp only; walk1))
          rename_i TD h9 FT NT lT
          obtain ⟨b0, b1, b2, b3, b4⟩ := lT
          refine PyProof.Rows.LCg.CompEnd.intro FT NT ((TD, tupOf [.ref DN, .int (1 + n % 5) t2] 0) :: (DN, listOf kvs.toArray kk) :: nw') ?_ ⟨⟨Nat.ne_of_gt b1, Nat.ne_of_gt b2, Nat.ne_of_gt b3⟩, ⟨hne _ (.head _), hne _ (.tail _ (.head _)), hne _ (.tail _ (.tail _ (.head _)))⟩, off⟩ trivial ⟨fun p hp => .tail _ (.tail _ (hsub p hp)), fun h' k x => ?_⟩
          · exact List.forall_mem_cons.mpr ⟨.tail _ (.tail _ (.head _)), List.forall_mem_cons.mpr ⟨.tail _ (.tail _ (.tail _ (.head _))), List.forall_mem_cons.mpr ⟨.tail _ (.tail _ (.tail _ (.tail _ (.head _)))), List.forall_mem_cons.mpr ⟨.head _, List.forall_mem_cons.mpr ⟨.tail _ (.head _), fun p hp => .tail _ (.tail _ (.tail _ (.tail _ (.tail _ hp))))⟩⟩⟩⟩⟩
          · rw [take_succ_at hn, List.map_append, List.map_append]
            exact (hz h' k fun p hp => x p (.tail _ (.tail _ hp))).append (.cons ⟨TD, DN, t2, kvs, kk, _, _, rfl, rfl, ⟨_, x _ (.head _), rfl, _, rfl⟩, x _ (.tail _ (.head _)), hS.pvs⟩ .nil)
        · obtain ⟨hsub, hz⟩ := j
          intro DU hU tU FU NU offU
          rw [hyl, List.take_length] at hz
          clear F10 N10
          (repeat' (first | (fail_if_success with_reducible refine Nf.go (by constructor) ?_); (fail_if_success fail_if_success with_reducible refine Fd.go (by constructor) ?_; k_fold); refine (let qk := _; let ek := _; (?_ : wpAny _ _ _ qk ek _)) | (fail_if_success fail_if_success k_unfold); (first | with_reducible refine (?_ : wpAny _ _ _ _ _ _) | k_unfold); (try dsimp only); try clear qk ek | (fail_if_success with_reducible refine Stop.go (by constructor) ?_); first | walk1 | dsimp only; walk1))
          refine due_spec (kf := zs.length) X1 T1 FU.keep (NU _ (.head _)).1 (NU _ (.head _)).2.2 (hz _ FU.keep fun p hp => (NU p (.tail _ hp)).1) hFk (by rw [List.length_map]; (clear hdp hu hns hq2 hdrl hdl; omega)) (two_alive (List.mem_map_of_mem hkm.1) (List.mem_map_of_mem hkm.2)) (by omega) (by omega) fun h11 tk11 DD dvs kd k11 fD eD A11 => ?_
          have F11 := Mine.Fr.kept (h' := h11) (D := []) FU k11 (fun b hb => no_mem hb) (fun hb => no_mem hb)
          have N11 := News.sub (news' := (DT, listOf tvs.toArray kt) :: (DQ, LCg.lst ys) :: (DR, listOf yd.toArray yd.length) :: (140, tabObj ps) :: (147, tabObj qs) :: (ex ++ nw)) (News.kept (h' := h11) (D := []) NU k11 (fun p hp hb => no_mem hb)) (fun p hp => .tail _ (hsub p hp))
          clear FU NU offU hsub hz
          have A12 := hex h11 F11.keep fun p hp => (N11 p (.tail _ (.tail _ (.tail _ (.tail _ (.tail _ (List.mem_append_left _ hp))))))).1
          (repeat' (first | (fail_if_success with_reducible refine Nf.go (by constructor) ?_); (fail_if_success fail_if_success with_reducible refine Fd.go (by constructor) ?_; k_fold); refine (let qk := _; let ek := _; (?_ : wpAny _ _ _ qk ek _)) | (fail_if_success fail_if_success k_unfold); (first | with_reducible refine (?_ : wpAny _ _ _ _ _ _) | k_unfold); (try dsimp only); try clear qk ek | (fail_if_success with_reducible refine Stop.go (by constructor) ?_); first | walk1 | dsimp only; walk1))
          refine ne_rows (N11 _ (.head _)).1 eD A12 A11 (by show un + 3 + 1 < _; simp only [cLine]; (clear hz hdp hns hq2 hdrl hdl hkl hw8 hyl; lia)) (by show un + 3 < _; simp only [cLine]; omega) ?_
          have hF5 : ∀ p ∈ kn.map fileOf, 0 < p.2 ∧ p.2 ≤ 5 := fun p hp => by
            obtain ⟨n, hn, rfl⟩ := List.mem_map.mp hp
            exact (fileOf_ok (hkn n hn).1 (hkn n hn).2).2
          have hF8 : (kn.map fileOf).length ≤ 8 := by rw [List.length_map]; exact hkl
          have h2a := two_alive (F := kn.map fileOf) (List.mem_map_of_mem hkm.1) (List.mem_map_of_mem hkm.2)
          have htx := texts_ok hF5 hF8
          have hrl := rows_len (kn.map fileOf)
          have hrb : ∀ r ∈ toldRows (kn.map fileOf), r.2.1.length ≤ 20 ∧ 0 ≤ r.2.2 ∧ r.2.2 ≤ 1000 := fun r hr => by
            obtain ⟨v, hv, rfl⟩ := rows_at hr
            have h1 := wt_le (v := v) hF5
            have h3 := (nd_one v hv).2.2.2.2.1
            exact ⟨by show (txt v).length ≤ 20; (clear hz hdp hu hns hq2 hdrl hdl hw8 hyl h2a hrl h1; lia), h1.1, by show wt _ v ≤ 1000; (clear hz hdp hu hns hq2 hdrl hdl hw8 hyl h2a hrl h3; lia)⟩
          have hrn : 0 < (toldRows (kn.map fileOf)).length := by unfold toldRows; rw [List.length_map]; (clear hz hdp hu hns hq2 hdrl hdl hw8 hyl hrl; lia)
          generalize toldRows (kn.map fileOf) = rows at A12 htx hrl hrb hrn
          clear A11 hex hFk hys hF5 hF8 h2a hkn hkm hI5 hI
          (repeat' (first | (fail_if_success with_reducible refine Nf.go (by constructor) ?_); (fail_if_success fail_if_success with_reducible refine Fd.go (by constructor) ?_; k_fold); refine (let qk := _; let ek := _; (?_ : wpAny _ _ _ qk ek _)) | (fail_if_success fail_if_success k_unfold); (first | with_reducible refine (?_ : wpAny _ _ _ _ _ _) | k_unfold); (try dsimp only); try clear qk ek | (fail_if_success with_reducible refine Stop.go (by constructor) ?_); first | walk1 | dsimp only; walk1))
          refine texts_spec (rows := rows) X1 T1 F11.keep (N11 _ (.head _)).1 (N11 _ (.head _)).2.2 A12 (by (clear hz hdp hu hns hq2 hdrl hdl hkl hw8 hyl; lia)) hrb (by omega) (by omega) fun h12 tk12 DX xvs kx k12 fX eX hX => ?_
          have F12 := Mine.Fr.kept (h' := h12) (D := []) F11 k12 (fun b hb => no_mem hb) (fun hb => no_mem hb)
          have gX : g.get? DX = none := by
            cases eg : g.get? DX with
            | none => rfl
            | some oP => have := F11.keep _ _ eg; rw [this] at fX; cases fX
          have N12 := News.cons (News.sub (news' := [(DR, listOf yd.toArray yd.length), (140, tabObj ps), (147, tabObj qs)]) (News.kept (h' := h12) (D := []) N11 k12 (fun p hp hb => no_mem hb)) (by ((try simp only [List.cons_append, List.nil_append]); repeat' (first | exact .head _ | refine .tail _ ?_ | exact List.forall_mem_nil _ | refine List.forall_mem_cons.mpr ⟨?_, ?_⟩ | assumption | intro _ _)))) eX gX (list_ne_L F12 eX)
          have hxl : (textsP rows).length = rows.length := by simp [textsP]
          generalize textsP rows = texts at htx hX hxl
          clear F11 N11 A12 hrb
          (repeat' (first | (fail_if_success with_reducible refine Nf.go (by constructor) ?_); (fail_if_success fail_if_success with_reducible refine Fd.go (by constructor) ?_; k_fold); refine (let qk := _; let ek := _; (?_ : wpAny _ _ _ qk ek _)) | (fail_if_success fail_if_success k_unfold); (first | with_reducible refine (?_ : wpAny _ _ _ _ _ _) | k_unfold); (try dsimp only); try clear qk ek | (fail_if_success with_reducible refine Stop.go (by constructor) ?_); first | walk1 | dsimp only; walk1))
          rename Heap => h13; rename Fr _ _ _ _ => F13; rename News _ _ _ _ => N13
          refine sumK rfl F13 N13 ⟨_, (N13 _ (.tail _ (.head _))).1, rfl, _, rfl⟩ hyd fun h14 tk14 t14 F14 N14 => ?_
          clear F13 N13
          (repeat' (first | (fail_if_success with_reducible refine Nf.go (by constructor) ?_); (fail_if_success fail_if_success with_reducible refine Fd.go (by constructor) ?_; k_fold); refine (let qk := _; let ek := _; (?_ : wpAny _ _ _ qk ek _)) | (fail_if_success fail_if_success k_unfold); (first | with_reducible refine (?_ : wpAny _ _ _ _ _ _) | k_unfold); (try dsimp only); try clear qk ek | (fail_if_success with_reducible refine Stop.go (by constructor) ?_); first | walk1 | dsimp only; walk1))
          rename Heap => h15; rename Fr _ _ _ _ => F15; rename News _ _ _ _ => N15
          refine sumK rfl F15 N15 ⟨_, (N15 _ (.tail _ (.head _))).1, rfl, _, rfl⟩ hyd fun h16 tk16 t16 F16 N16 => ?_
          clear F15 N15
          (repeat' (first | (fail_if_success with_reducible refine Nf.go (by constructor) ?_); (fail_if_success fail_if_success with_reducible refine Fd.go (by constructor) ?_; k_fold); refine (let qk := _; let ek := _; (?_ : wpAny _ _ _ qk ek _)) | (fail_if_success fail_if_success k_unfold); (first | with_reducible refine (?_ : wpAny _ _ _ _ _ _) | k_unfold); (try dsimp only); try clear qk ek | (fail_if_success with_reducible refine Stop.go (by constructor) ?_); first | walk1 | dsimp only; walk1))
          rename Heap => h17; rename Fr _ _ _ _ => F17; rename News _ _ _ _ => N17
          obtain ⟨t0, r, rfl⟩ : ∃ a l, texts = a :: l := List.exists_cons_of_length_pos (by (clear hz hdp hu hns hq2 hdrl hdl hkl hw8 hyl; lia))
          have hd0 : 0 ≤ Int.fmod dr.sum 4 * 2 ∧ Int.fmod dr.sum 4 * 2 ≤ 10 := by
            rw [fmodP _ _ (by decide)]
            (clear hz hdp hu hns hq2 hdrl hdl hkl hw8 hyl hrl hrn hxl; lia)
          obtain ⟨tl1, tl2, tl3⟩ := twin_law (W := 8 + Int.fmod (Int.fdiv dr.sum 4) 12) hd0.1 (fun t ht => (htx t ht).1) (fun t ht => (htx t ht).2) (by (clear hz hdp hu hns hq2 hdrl hdl hkl hw8 hyl hd0; lia))
          generalize Int.fmod dr.sum 4 * 2 = hd at F17 hd0 tl1 tl2 tl3
          generalize 8 + Int.fmod (Int.fdiv dr.sum 4) 12 = W at F17 tl1 tl2 tl3
          refine written_spec X1 T1 F17.keep G (N17 _ (.head _)).1 (N17 _ (.head _)).2.2 hX (N17 _ (.tail _ (.tail _ (.head _)))).1 (N17 _ (.tail _ (.tail _ (.head _)))).2.2 ht140 (N17 _ (.tail _ (.tail _ (.tail _ (.head _))))).1 (N17 _ (.tail _ (.tail _ (.tail _ (.head _))))).2.2 ht147 (by (clear hz hdp hu hns hq2 hdrl hdl hkl hw8 hyl hd0 tl2 tl3; omega)) (fun t ht => (htx t ht).2) hd0 tl2 tl3 (by omega) (by omega) fun h18 g18 tk18 t18 k18 tabs18 G18 => ?_
          obtain ⟨ps2, qs2, e140, u140, e147, u147⟩ := tabs18
          have F18 : Fr g L h18 _ := fr_kept F17 N17 k18 (fun b hb => by
            rcases List.mem_cons.mp hb with rfl | hb
            · exact ⟨_, .tail _ (.tail _ (.head _))⟩
            · rw [List.mem_singleton.mp hb]; exact ⟨_, .tail _ (.tail _ (.tail _ (.head _)))⟩)
          have eX18 : h18.get? DX = some (listOf xvs.toArray kx) := k18 _ _ (fun hm => by
            have z := (N17 _ (.head _)).1
            rcases List.mem_cons.mp hm with q | hm
            · rw [show DX = (140 : Addr) from q, (N17 _ (.tail _ (.tail _ (.head _)))).1] at z
              exact absurd (congrArg Obj.cls (Option.some.inj z)) (by simp)
            · rw [show DX = (147 : Addr) from List.mem_singleton.mp hm, (N17 _ (.tail _ (.tail _ (.tail _ (.head _))))).1] at z
              exact absurd (congrArg Obj.cls (Option.some.inj z)) (by simp)) (N17 _ (.head _)).1
          have N18 : News g L h18 [(DX, listOf xvs.toArray kx), (140, tabObj ps2), (147, tabObj qs2)] := News.cons (News.cons (News.cons (fun p hp => no_mem hp) e147 (N17 _ (.tail _ (.tail _ (.tail _ (.head _))))).2.2 (N17 _ (.tail _ (.tail _ (.tail _ (.head _))))).2.1) e140 (N17 _ (.tail _ (.tail _ (.head _)))).2.2 (N17 _ (.tail _ (.tail _ (.head _)))).2.1) eX18 (N17 _ (.head _)).2.2 (N17 _ (.head _)).2.1
          clear F17 N17
          (repeat' (first | (fail_if_success with_reducible refine Nf.go (by constructor) ?_); (fail_if_success fail_if_success with_reducible refine Fd.go (by constructor) ?_; k_fold); refine (let qk := _; let ek := _; (?_ : wpAny _ _ _ qk ek _)) | (fail_if_success fail_if_success k_unfold); (first | with_reducible refine (?_ : wpAny _ _ _ _ _ _) | k_unfold); (try dsimp only); try clear qk ek | (fail_if_success with_reducible refine Stop.go (by constructor) ?_); first | walk1 | dsimp only; walk1))
          refine twin_spec X1 T1 F18.keep (N18 _ (.head _)).1 (N18 _ (.head _)).2.2 hX ⟨by (clear hz hdp hu hns hq2 hdrl hdl hkl hw8 hyl hd0 tl2 tl3; omega), by simp⟩ (fun t ht => ⟨(htx t ht).2.1, (htx t ht).1.pos⟩) hd0 (by omega) (by omega) fun h19 tk19 t19 k19 => ?_
          rw [tl1]
          have F19 := Mine.Fr.kept (h' := h19) (D := []) F18 k19 (fun b hb => no_mem hb) (fun hb => no_mem hb)
          have N19 := News.kept (h' := h19) (D := []) N18 k19 (fun p hp hb => no_mem hb)
          clear F18 N18
          (repeat' (first | (fail_if_success with_reducible refine Nf.go (by constructor) ?_); (fail_if_success fail_if_success with_reducible refine Fd.go (by constructor) ?_; k_fold); refine (let qk := _; let ek := _; (?_ : wpAny _ _ _ qk ek _)) | (fail_if_success fail_if_success k_unfold); (first | with_reducible refine (?_ : wpAny _ _ _ _ _ _) | k_unfold); (try dsimp only); try clear qk ek | (fail_if_success with_reducible refine Stop.go (by constructor) ?_); first | walk1 | dsimp only; walk1))
          rw [beq_self_eq_true]
          refine ret _ _ _ (keep_of (D := [(140, tabObj ps), (147, tabObj qs)]) (fun q hq => ?_) KP F19.keep fun q hq hn' => ?_) ⟨ps2, qs2, (N19 _ (.tail _ (.head _))).1, u140, (N19 _ (.tail _ (.tail _ (.head _)))).1, u147⟩ G18
          · simp only [List.mem_cons, List.not_mem_nil, or_false] at hq
            rcases hq with rfl | rfl
            · exact h140
            · exact h147
          · simp only [List.mem_cons, List.not_mem_nil, or_false] at hq
            rcases hq with rfl | rfl
            · exact absurd (by simp) hn'
            · exact absurd (by simp) hn'

end
end Mine
namespace Mine
theorem tabs_base {h h' : Heap} {tabs : List (Addr × Addr)} {D : List Addr} (hD : D = tabs.map (·.2)) (k : Keep D h h') : ∀ b o, (ghostOf h tabs).get? b = some o → h'.get? b = some o := fun b o e => k b o (fun hb => by
  rw [hD] at hb
  have := hideAll_none (h := h) _ hb
  rw [show (ghostOf h tabs).get? b = none from this] at e; cases e) (of_hideAll _ e)
theorem top_gl {p : Program} {loose : List Str} {mean : ExcName → Option Value} {mg mb : Str → Option Value} {h : Heap} {tabs : List (Addr × Addr)} (hT : TabsAt tabs h) (T : Top p loose mean mg mb h)
    (e : loose ++ (recsOf p).map (·.name) ++ (litsOf p).map (·.1) ++ (clssOf p loose).map (·.name) = GL) : Top topProg GL mean mg mb (ghostOf h tabs) := e ▸ ghost_top hT T
theorem grown2 {h : Heap} {ps qs : Array Value} (e1 : h.get? 140 = some (tabObj ps)) (e2 : h.get? 147 = some (tabObj qs)) : GrownAll [(144, 140), (151, 147)] h := ⟨⟨ps, e1⟩, ⟨qs, e2⟩, trivial⟩
end Mine
theorem PySem.Challenge.cw_ik0220_02_holds : PySem.Challenge.rw_ik0220_02.Holds := by
  w_on
  refine holds_law Mine.said1 fun said => ?_
  refine holds_open (q := Mine.vw) (loose := Mine.LS1) (Xt := fun s => xlAt Mine.vw [] s && recOk (RowW.records Mine.rowR.toRowW) s) (XP := XL Mine.vw []) (Yf := Hook.obs Mine.HK) (Ya := Hook.val Mine.HK) (YP := Hook.says Mine.HK) (N := 6000) Mine.left1 (Hook.of Mine.HK) (Hook.keeps Mine.HK) (fun s e => xl_of s (Bool.and_eq_true_iff.mp e).1) XL.keeps (by rfl) (by rfl) (by rfl) (fun s e => recFacts_of (Bool.and_eq_true_iff.mp e).2) (by rfl) said (by decide +kernel) ⟨rfl, rfl, rfl, rfl, rfl, by decide +kernel⟩ ?hw ?hc
  case hw => w_witness2
  case hc =>
    k_fill
    intro w s₀ s₁ mg mb G Y fa o pm cd doc dV kV ho hd' hcd hD hmg hg args vals as hpre hlay hrd hwl hlo
    have KX := km_in_of Y
    have KT := km_tabs_of Y
    have X := (Ground.X G).1
    have V := (Ground.X G).2
    refine Ground.open G ?_
    intro T B D TE TW
    try (refine guard_noD D (by decide +kernel) ?_; clear D)
    have hT9 : TabsAt [(144, 140), (151, 147)] s₁.heap := List.forall_mem_cons.mpr ⟨⟨codeHd_of_K (c := 144) (P := 140) KX (by kernel_rfl), KT 140 (by k_mem)⟩, List.forall_mem_cons.mpr ⟨⟨codeHd_of_K (c := 151) (P := 147) KX (by kernel_rfl), KT 147 (by k_mem)⟩, fun _ h => nomatch h⟩⟩
    wrow_args hpre hlay hrd hwl hlo
    rename_i zs hsh hla0 hL1 hrr1 hlw2 rs1 rs2 al vsA rsA hLst hRA hW1 hR0 hIA hRW hlen htt
    have e373 : mg (Str.ofString "law") = some (.ref 373) := mg_of KX T.g (by kernel_rfl)
    have hfa : fa = 373 := by
      rw [show mg (Str.ofString "law") = some (.ref fa) from hmg] at e373
      cases e373
      rfl
    subst hfa
    clear ho hd' hcd hD hmg
    refine enter_call ?_
    refine Mine.end_true hT9 (d := .bool true) (fun _ => rfl) (fun _ => .bool _) (by kernel_rfl) ?_
    have GT := Mine.top_gl hT9 T (by kernel_rfl)

    have hzl : vsA.length ≤ sizeLine := by rw [hIA.length, sizeLine_eq]; omega
    refine Mine.law_spec (w := w) (dp := 1 + claimMargin) (un := 4) (gd := some []) (fr := []) (ps := #[]) (qs := #[]) (ns := zs) (ghost_K hT9 KX (by kernel_rfl)) GT (fun b o e => of_hideAll _ e) (AllBare.of_eq hg) (ghost_list hT9 hLst) hIA hzl (KT 140 (by simp)) (hideAll_none _ (by simp)) (.inl rfl) (KT 147 (by simp)) (hideAll_none _ (by simp)) (.inl rfl) (by decide) (by decide) fun h' g' tk' kp tb gb => ?_
    obtain ⟨ps', qs', e1, -, e2, -⟩ := tb
    exact ⟨rfl, Mine.tabs_base rfl kp, rfl, gb, Mine.grown2 e1 e2⟩
