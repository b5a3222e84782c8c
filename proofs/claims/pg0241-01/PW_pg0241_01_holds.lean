import PyProof.Rows.All
import Wide.All
import OpenK.AllK
import Wide.FinOn
import PySem.Challenge.RW_pg0241_01
open PySem PySem.W PyProof.Rows
set_option Elab.async false
set_option maxRecDepth 100000
set_option maxHeartbeats 8000000
set_option linter.unusedVariables false
set_option linter.unusedSimpArgs false
set_option rowWalk.seconds 0
namespace Mine
section
example : True := by w_top off; trivial
def fnPart : Stmt → Arguments × List Stmt × Scope
  | .FunctionDef _ p b _ _ _ s _ _ _ => (p, b, s)
  | _ => default
noncomputable def mainAt (k : Nat) : Stmt := (PySem.Challenge.rw_pg0241_01.prog.main.body[k]?).getD (.Pass default)
noncomputable def clsAt (k : Nat) : Stmt := match mainAt 12 with
  | .ClassDef _ _ _ b _ _ _ _ _ _ _ => (b[k]?).getD (.Pass default)
  | _ => .Pass default
/-- the objects of the start that the law can come to; the functions' bodies are the program's own -/
noncomputable def heapK (P : Params) : Frag := by
  refine' (fun (p23 : Arguments) (b23 : List Stmt) (s23 : Scope) (_ : fnPart (mainAt 1) = (p23, b23, s23)) (p32 : Arguments) (b32 : List Stmt) (s32 : Scope) (_ : fnPart (mainAt 2) = (p32, b32, s32)) (p39 : Arguments) (b39 : List Stmt) (s39 : Scope) (_ : fnPart (mainAt 5) = (p39, b39, s39)) (p46 : Arguments) (b46 : List Stmt) (s46 : Scope) (_ : fnPart (mainAt 6) = (p46, b46, s46)) (p53 : Arguments) (b53 : List Stmt) (s53 : Scope) (_ : fnPart (mainAt 7) = (p53, b53, s53)) (p60 : Arguments) (b60 : List Stmt) (s60 : Scope) (_ : fnPart (mainAt 8) = (p60, b60, s60)) (p67 : Arguments) (b67 : List Stmt) (s67 : Scope) (_ : fnPart (mainAt 9) = (p67, b67, s67)) (p74 : Arguments) (b74 : List Stmt) (s74 : Scope) (_ : fnPart (mainAt 10) = (p74, b74, s74)) (p88 : Arguments) (b88 : List Stmt) (s88 : Scope) (_ : fnPart (clsAt 0) = (p88, b88, s88)) (p95 : Arguments) (b95 : List Stmt) (s95 : Scope) (_ : fnPart (clsAt 1) = (p95, b95, s95)) (p102 : Arguments) (b102 : List Stmt) (s102 : Scope) (_ : fnPart (clsAt 2) = (p102, b102, s102)) (p109 : Arguments) (b109 : List Stmt) (s109 : Scope) (_ : fnPart (clsAt 3) = (p109, b109, s109)) (p123 : Arguments) (b123 : List Stmt) (s123 : Scope) (_ : fnPart (mainAt 14) = (p123, b123, s123)) (p128 : Arguments) (b128 : List Stmt) (s128 : Scope) (_ : fnPart (mainAt 15) = (p128, b128, s128)) (p135 : Arguments) (b135 : List Stmt) (s135 : Scope) (_ : fnPart (mainAt 16) = (p135, b135, s135)) (p142 : Arguments) (b142 : List Stmt) (s142 : Scope) (_ : fnPart (mainAt 17) = (p142, b142, s142)) (p147 : Arguments) (b147 : List Stmt) (s147 : Scope) (_ : fnPart (mainAt 18) = (p147, b147, s147)) =>
    ((nat_lit 2), (@Obj.mk @Value.none (@Option.none @Nat) (@Data.dict (@List.toArray @DictEntry (@List.nil @DictEntry)) (0 : Nat)) (@List.toArray (@Option @Value) (@List.nil (@Option @Value))))) ::
    ((nat_lit 3), (@Obj.mk (@Value.type "dict") (@Option.none @Nat) (@Data.dict (@List.toArray @DictEntry [(@DictEntry.mk (@PyData.keyHash P (@Str.ofString "__name__")) (@Value.str (@Str.ofString "__name__") (165 : Nat)) (@Value.str (@Str.ofString "law_pg0241_01") (359 : Nat))), (@DictEntry.mk (@PyData.keyHash P (@Str.ofString "__doc__")) (@Value.str (@Str.ofString "__doc__") (166 : Nat)) @Value.none), (@DictEntry.mk (@PyData.keyHash P (@Str.ofString "__package__")) (@Value.str (@Str.ofString "__package__") (167 : Nat)) @Value.none), (@DictEntry.mk (@PyData.keyHash P (@Str.ofString "__loader__")) (@Value.str (@Str.ofString "__loader__") (168 : Nat)) (@Value.builtin "__main__.__loader__#opaque")), (@DictEntry.mk (@PyData.keyHash P (@Str.ofString "__spec__")) (@Value.str (@Str.ofString "__spec__") (169 : Nat)) @Value.none), (@DictEntry.mk (@PyData.keyHash P (@Str.ofString "__annotations__")) (@Value.str (@Str.ofString "__annotations__") (170 : Nat)) (@Value.ref (6 : Nat))), (@DictEntry.mk (@PyData.keyHash P (@Str.ofString "__builtins__")) (@Value.str (@Str.ofString "__builtins__") (171 : Nat)) (@Value.ref (4 : Nat))), (@DictEntry.mk (@PyData.keyHash P (@Str.ofString "__file__")) (@Value.str (@Str.ofString "__file__") (173 : Nat)) (@Value.str (@Str.ofString "/claim/cut.py") (172 : Nat))), (@DictEntry.mk (@PyData.keyHash P (@Str.ofString "__cached__")) (@Value.str (@Str.ofString "__cached__") (174 : Nat)) @Value.none), (@DictEntry.mk (@PyData.keyHash P (@Str.ofString "bisect_right")) (@Value.str (@Str.ofString "bisect_right") (202 : Nat)) (@Value.ref (23 : Nat))), (@DictEntry.mk (@PyData.keyHash P (@Str.ofString "bisect_left")) (@Value.str (@Str.ofString "bisect_left") (216 : Nat)) (@Value.ref (32 : Nat))), (@DictEntry.mk (@PyData.keyHash P (@Str.ofString "_DIV_LIMIT")) (@Value.str (@Str.ofString "_DIV_LIMIT") (220 : Nat)) (@Value.int 4000 (219 : Nat))), (@DictEntry.mk (@PyData.keyHash P (@Str.ofString "_div2n1n")) (@Value.str (@Str.ofString "_div2n1n") (237 : Nat)) (@Value.ref (39 : Nat))), (@DictEntry.mk (@PyData.keyHash P (@Str.ofString "_div3n2n")) (@Value.str (@Str.ofString "_div3n2n") (251 : Nat)) (@Value.ref (46 : Nat))), (@DictEntry.mk (@PyData.keyHash P (@Str.ofString "_int2digits")) (@Value.str (@Str.ofString "_int2digits") (262 : Nat)) (@Value.ref (53 : Nat))), (@DictEntry.mk (@PyData.keyHash P (@Str.ofString "_digits2int")) (@Value.str (@Str.ofString "_digits2int") (273 : Nat)) (@Value.ref (60 : Nat))), (@DictEntry.mk (@PyData.keyHash P (@Str.ofString "_divmod_pos")) (@Value.str (@Str.ofString "_divmod_pos") (288 : Nat)) (@Value.ref (67 : Nat))), (@DictEntry.mk (@PyData.keyHash P (@Str.ofString "int_divmod")) (@Value.str (@Str.ofString "int_divmod") (298 : Nat)) (@Value.ref (74 : Nat))), (@DictEntry.mk (@PyData.keyHash P (@Str.ofString "_netrclex")) (@Value.str (@Str.ofString "_netrclex") (358 : Nat)) (@Value.ref (112 : Nat))), (@DictEntry.mk (@PyData.keyHash P (@Str.ofString "_law_stream")) (@Value.str (@Str.ofString "_law_stream") (369 : Nat)) (@Value.ref (123 : Nat))), (@DictEntry.mk (@PyData.keyHash P (@Str.ofString "_law_written")) (@Value.str (@Str.ofString "_law_written") (375 : Nat)) (@Value.ref (128 : Nat))), (@DictEntry.mk (@PyData.keyHash P (@Str.ofString "_law_back")) (@Value.str (@Str.ofString "_law_back") (384 : Nat)) (@Value.ref (135 : Nat))), (@DictEntry.mk (@PyData.keyHash P (@Str.ofString "_law_forth")) (@Value.str (@Str.ofString "_law_forth") (393 : Nat)) (@Value.ref (142 : Nat))), (@DictEntry.mk (@PyData.keyHash P (@Str.ofString "law")) (@Value.str (@Str.ofString "law") (399 : Nat)) (@Value.ref (147 : Nat)))]) (24 : Nat)) (@List.toArray (@Option @Value) (@List.nil (@Option @Value))))) ::
    ((nat_lit 15), (@Obj.mk (@Value.type "tuple") (@Option.none @Nat) (@Data.seq (@List.toArray @Value [(@Value.int 0 (189 : Nat)), @Value.none]) (0 : Nat)) (@List.toArray (@Option @Value) (@List.nil (@Option @Value))))) ::
    ((nat_lit 16), (@Obj.mk (@Value.type "dict") (@Option.none @Nat) (@Data.dict (@List.toArray @DictEntry [(@DictEntry.mk (@PyData.keyHash P (@Str.ofString "key")) (@Value.str (@Str.ofString "key") (190 : Nat)) @Value.none)]) (1 : Nat)) (@List.toArray (@Option @Value) (@List.nil (@Option @Value))))) ::
    ((nat_lit 22), (@Obj.mk (@Value.type "code") (@Option.none @Nat) (@Data.fields (@List.toArray @Value [(@Value.str (@Str.ofString "bisect_right") (191 : Nat)), (@Value.str (@Str.ofString "bisect_right") (192 : Nat)), (@Value.str (@Str.ofString "/claim/cut.py") (193 : Nat)), (@Value.int 2 (0 : Nat)), (@Value.int 4 (0 : Nat)), (@Value.int 0 (0 : Nat)), (@Value.int 1 (0 : Nat)), (@Value.int 3 (0 : Nat)), (@Value.ref (17 : Nat)), (@Value.bool @Bool.true), (@Value.int 181 (0 : Nat)), (@Value.ref (18 : Nat)), @Value.none, (@Value.ref (19 : Nat)), (@Value.ref (20 : Nat)), (@Value.ref (21 : Nat)), (@Value.int 200 (0 : Nat)), (@Value.int 2 (0 : Nat)), (@Value.str (@Str.ofString "/claim/cut.py") (201 : Nat))])) (@List.toArray (@Option @Value) (@List.nil (@Option @Value))))) ::
    ((nat_lit 23), (@Obj.mk (@Value.type "function") (@Option.none @Nat) (@Data.func (@FuncData.mk (@Str.ofString "bisect_right") (@Str.ofString "bisect_right") p23 (FuncBody.stmts b23) s23 (3 : Nat) (@List.nil (@Prod @Str @Nat)) (@Value.ref (15 : Nat)) (@Value.ref (16 : Nat)) @Value.none (@Value.str (@Str.ofString "cpy313.bisect") (187 : Nat)) (@Option.none @Nat) (@Value.ref (22 : Nat)) @Value.none (0 : Nat))) (@List.toArray (@Option @Value) (@List.nil (@Option @Value))))) ::
    ((nat_lit 24), (@Obj.mk (@Value.type "tuple") (@Option.none @Nat) (@Data.seq (@List.toArray @Value [(@Value.int 0 (203 : Nat)), @Value.none]) (0 : Nat)) (@List.toArray (@Option @Value) (@List.nil (@Option @Value))))) ::
    ((nat_lit 25), (@Obj.mk (@Value.type "dict") (@Option.none @Nat) (@Data.dict (@List.toArray @DictEntry [(@DictEntry.mk (@PyData.keyHash P (@Str.ofString "key")) (@Value.str (@Str.ofString "key") (204 : Nat)) @Value.none)]) (1 : Nat)) (@List.toArray (@Option @Value) (@List.nil (@Option @Value))))) ::
    ((nat_lit 31), (@Obj.mk (@Value.type "code") (@Option.none @Nat) (@Data.fields (@List.toArray @Value [(@Value.str (@Str.ofString "bisect_left") (205 : Nat)), (@Value.str (@Str.ofString "bisect_left") (206 : Nat)), (@Value.str (@Str.ofString "/claim/cut.py") (207 : Nat)), (@Value.int 22 (0 : Nat)), (@Value.int 4 (0 : Nat)), (@Value.int 0 (0 : Nat)), (@Value.int 1 (0 : Nat)), (@Value.int 3 (0 : Nat)), (@Value.ref (26 : Nat)), (@Value.bool @Bool.true), (@Value.int 181 (0 : Nat)), (@Value.ref (27 : Nat)), @Value.none, (@Value.ref (28 : Nat)), (@Value.ref (29 : Nat)), (@Value.ref (30 : Nat)), (@Value.int 214 (0 : Nat)), (@Value.int 22 (0 : Nat)), (@Value.str (@Str.ofString "/claim/cut.py") (215 : Nat))])) (@List.toArray (@Option @Value) (@List.nil (@Option @Value))))) ::
    ((nat_lit 32), (@Obj.mk (@Value.type "function") (@Option.none @Nat) (@Data.func (@FuncData.mk (@Str.ofString "bisect_left") (@Str.ofString "bisect_left") p32 (FuncBody.stmts b32) s32 (3 : Nat) (@List.nil (@Prod @Str @Nat)) (@Value.ref (24 : Nat)) (@Value.ref (25 : Nat)) @Value.none (@Value.str (@Str.ofString "cpy313.bisect") (187 : Nat)) (@Option.none @Nat) (@Value.ref (31 : Nat)) @Value.none (0 : Nat))) (@List.toArray (@Option @Value) (@List.nil (@Option @Value))))) ::
    ((nat_lit 38), (@Obj.mk (@Value.type "code") (@Option.none @Nat) (@Data.fields (@List.toArray @Value [(@Value.str (@Str.ofString "_div2n1n") (221 : Nat)), (@Value.str (@Str.ofString "_div2n1n") (222 : Nat)), (@Value.str (@Str.ofString "/claim/cut.py") (223 : Nat)), (@Value.int 44 (0 : Nat)), (@Value.int 3 (0 : Nat)), (@Value.int 0 (0 : Nat)), (@Value.int 0 (0 : Nat)), (@Value.int 3 (0 : Nat)), (@Value.ref (33 : Nat)), (@Value.bool @Bool.true), (@Value.int 181 (0 : Nat)), (@Value.ref (34 : Nat)), @Value.none, (@Value.ref (35 : Nat)), (@Value.ref (36 : Nat)), (@Value.ref (37 : Nat)), (@Value.int 235 (0 : Nat)), (@Value.int 44 (0 : Nat)), (@Value.str (@Str.ofString "/claim/cut.py") (236 : Nat))])) (@List.toArray (@Option @Value) (@List.nil (@Option @Value))))) ::
    ((nat_lit 39), (@Obj.mk (@Value.type "function") (@Option.none @Nat) (@Data.func (@FuncData.mk (@Str.ofString "_div2n1n") (@Str.ofString "_div2n1n") p39 (FuncBody.stmts b39) s39 (3 : Nat) (@List.nil (@Prod @Str @Nat)) @Value.none @Value.none @Value.none (@Value.str (@Str.ofString "cpy313._pylong") (217 : Nat)) (@Option.none @Nat) (@Value.ref (38 : Nat)) @Value.none (0 : Nat))) (@List.toArray (@Option @Value) (@List.nil (@Option @Value))))) ::
    ((nat_lit 45), (@Obj.mk (@Value.type "code") (@Option.none @Nat) (@Data.fields (@List.toArray @Value [(@Value.str (@Str.ofString "_div3n2n") (238 : Nat)), (@Value.str (@Str.ofString "_div3n2n") (239 : Nat)), (@Value.str (@Str.ofString "/claim/cut.py") (240 : Nat)), (@Value.int 60 (0 : Nat)), (@Value.int 6 (0 : Nat)), (@Value.int 0 (0 : Nat)), (@Value.int 0 (0 : Nat)), (@Value.int 3 (0 : Nat)), (@Value.ref (40 : Nat)), (@Value.bool @Bool.true), (@Value.int 181 (0 : Nat)), (@Value.ref (41 : Nat)), @Value.none, (@Value.ref (42 : Nat)), (@Value.ref (43 : Nat)), (@Value.ref (44 : Nat)), (@Value.int 249 (0 : Nat)), (@Value.int 60 (0 : Nat)), (@Value.str (@Str.ofString "/claim/cut.py") (250 : Nat))])) (@List.toArray (@Option @Value) (@List.nil (@Option @Value))))) ::
    ((nat_lit 46), (@Obj.mk (@Value.type "function") (@Option.none @Nat) (@Data.func (@FuncData.mk (@Str.ofString "_div3n2n") (@Str.ofString "_div3n2n") p46 (FuncBody.stmts b46) s46 (3 : Nat) (@List.nil (@Prod @Str @Nat)) @Value.none @Value.none @Value.none (@Value.str (@Str.ofString "cpy313._pylong") (217 : Nat)) (@Option.none @Nat) (@Value.ref (45 : Nat)) @Value.none (0 : Nat))) (@List.toArray (@Option @Value) (@List.nil (@Option @Value))))) ::
    ((nat_lit 52), (@Obj.mk (@Value.type "code") (@Option.none @Nat) (@Data.fields (@List.toArray @Value [(@Value.str (@Str.ofString "_int2digits") (252 : Nat)), (@Value.str (@Str.ofString "_int2digits") (253 : Nat)), (@Value.str (@Str.ofString "/claim/cut.py") (254 : Nat)), (@Value.int 70 (0 : Nat)), (@Value.int 2 (0 : Nat)), (@Value.int 0 (0 : Nat)), (@Value.int 0 (0 : Nat)), (@Value.int 3 (0 : Nat)), (@Value.ref (47 : Nat)), (@Value.bool @Bool.true), (@Value.int 181 (0 : Nat)), (@Value.ref (48 : Nat)), @Value.none, (@Value.ref (49 : Nat)), (@Value.ref (50 : Nat)), (@Value.ref (51 : Nat)), (@Value.int 260 (0 : Nat)), (@Value.int 70 (0 : Nat)), (@Value.str (@Str.ofString "/claim/cut.py") (261 : Nat))])) (@List.toArray (@Option @Value) (@List.nil (@Option @Value))))) ::
    ((nat_lit 53), (@Obj.mk (@Value.type "function") (@Option.none @Nat) (@Data.func (@FuncData.mk (@Str.ofString "_int2digits") (@Str.ofString "_int2digits") p53 (FuncBody.stmts b53) s53 (3 : Nat) (@List.nil (@Prod @Str @Nat)) @Value.none @Value.none @Value.none (@Value.str (@Str.ofString "cpy313._pylong") (217 : Nat)) (@Option.none @Nat) (@Value.ref (52 : Nat)) @Value.none (0 : Nat))) (@List.toArray (@Option @Value) (@List.nil (@Option @Value))))) ::
    ((nat_lit 59), (@Obj.mk (@Value.type "code") (@Option.none @Nat) (@Data.fields (@List.toArray @Value [(@Value.str (@Str.ofString "_digits2int") (263 : Nat)), (@Value.str (@Str.ofString "_digits2int") (264 : Nat)), (@Value.str (@Str.ofString "/claim/cut.py") (265 : Nat)), (@Value.int 86 (0 : Nat)), (@Value.int 2 (0 : Nat)), (@Value.int 0 (0 : Nat)), (@Value.int 0 (0 : Nat)), (@Value.int 3 (0 : Nat)), (@Value.ref (54 : Nat)), (@Value.bool @Bool.true), (@Value.int 181 (0 : Nat)), (@Value.ref (55 : Nat)), @Value.none, (@Value.ref (56 : Nat)), (@Value.ref (57 : Nat)), (@Value.ref (58 : Nat)), (@Value.int 271 (0 : Nat)), (@Value.int 86 (0 : Nat)), (@Value.str (@Str.ofString "/claim/cut.py") (272 : Nat))])) (@List.toArray (@Option @Value) (@List.nil (@Option @Value))))) ::
    ((nat_lit 60), (@Obj.mk (@Value.type "function") (@Option.none @Nat) (@Data.func (@FuncData.mk (@Str.ofString "_digits2int") (@Str.ofString "_digits2int") p60 (FuncBody.stmts b60) s60 (3 : Nat) (@List.nil (@Prod @Str @Nat)) @Value.none @Value.none @Value.none (@Value.str (@Str.ofString "cpy313._pylong") (217 : Nat)) (@Option.none @Nat) (@Value.ref (59 : Nat)) @Value.none (0 : Nat))) (@List.toArray (@Option @Value) (@List.nil (@Option @Value))))) ::
    ((nat_lit 66), (@Obj.mk (@Value.type "code") (@Option.none @Nat) (@Data.fields (@List.toArray @Value [(@Value.str (@Str.ofString "_divmod_pos") (274 : Nat)), (@Value.str (@Str.ofString "_divmod_pos") (275 : Nat)), (@Value.str (@Str.ofString "/claim/cut.py") (276 : Nat)), (@Value.int 95 (0 : Nat)), (@Value.int 2 (0 : Nat)), (@Value.int 0 (0 : Nat)), (@Value.int 0 (0 : Nat)), (@Value.int 3 (0 : Nat)), (@Value.ref (61 : Nat)), (@Value.bool @Bool.true), (@Value.int 181 (0 : Nat)), (@Value.ref (62 : Nat)), @Value.none, (@Value.ref (63 : Nat)), (@Value.ref (64 : Nat)), (@Value.ref (65 : Nat)), (@Value.int 286 (0 : Nat)), (@Value.int 95 (0 : Nat)), (@Value.str (@Str.ofString "/claim/cut.py") (287 : Nat))])) (@List.toArray (@Option @Value) (@List.nil (@Option @Value))))) ::
    ((nat_lit 67), (@Obj.mk (@Value.type "function") (@Option.none @Nat) (@Data.func (@FuncData.mk (@Str.ofString "_divmod_pos") (@Str.ofString "_divmod_pos") p67 (FuncBody.stmts b67) s67 (3 : Nat) (@List.nil (@Prod @Str @Nat)) @Value.none @Value.none @Value.none (@Value.str (@Str.ofString "cpy313._pylong") (217 : Nat)) (@Option.none @Nat) (@Value.ref (66 : Nat)) @Value.none (0 : Nat))) (@List.toArray (@Option @Value) (@List.nil (@Option @Value))))) ::
    ((nat_lit 73), (@Obj.mk (@Value.type "code") (@Option.none @Nat) (@Data.fields (@List.toArray @Value [(@Value.str (@Str.ofString "int_divmod") (289 : Nat)), (@Value.str (@Str.ofString "int_divmod") (290 : Nat)), (@Value.str (@Str.ofString "/claim/cut.py") (291 : Nat)), (@Value.int 106 (0 : Nat)), (@Value.int 2 (0 : Nat)), (@Value.int 0 (0 : Nat)), (@Value.int 0 (0 : Nat)), (@Value.int 3 (0 : Nat)), (@Value.ref (68 : Nat)), (@Value.bool @Bool.true), (@Value.int 181 (0 : Nat)), (@Value.ref (69 : Nat)), @Value.none, (@Value.ref (70 : Nat)), (@Value.ref (71 : Nat)), (@Value.ref (72 : Nat)), (@Value.int 296 (0 : Nat)), (@Value.int 106 (0 : Nat)), (@Value.str (@Str.ofString "/claim/cut.py") (297 : Nat))])) (@List.toArray (@Option @Value) (@List.nil (@Option @Value))))) ::
    ((nat_lit 74), (@Obj.mk (@Value.type "function") (@Option.none @Nat) (@Data.func (@FuncData.mk (@Str.ofString "int_divmod") (@Str.ofString "int_divmod") p74 (FuncBody.stmts b74) s74 (3 : Nat) (@List.nil (@Prod @Str @Nat)) @Value.none @Value.none @Value.none (@Value.str (@Str.ofString "cpy313._pylong") (217 : Nat)) (@Option.none @Nat) (@Value.ref (73 : Nat)) @Value.none (0 : Nat))) (@List.toArray (@Option @Value) (@List.nil (@Option @Value))))) ::
    ((nat_lit 87), (@Obj.mk (@Value.type "code") (@Option.none @Nat) (@Data.fields (@List.toArray @Value [(@Value.str (@Str.ofString "__init__") (313 : Nat)), (@Value.str (@Str.ofString "_netrclex.__init__") (314 : Nat)), (@Value.str (@Str.ofString "/claim/cut.py") (315 : Nat)), (@Value.int 120 (0 : Nat)), (@Value.int 2 (0 : Nat)), (@Value.int 0 (0 : Nat)), (@Value.int 0 (0 : Nat)), (@Value.int 3 (0 : Nat)), (@Value.ref (82 : Nat)), (@Value.bool @Bool.true), (@Value.int 181 (0 : Nat)), (@Value.ref (83 : Nat)), @Value.none, (@Value.ref (84 : Nat)), (@Value.ref (85 : Nat)), (@Value.ref (86 : Nat)), (@Value.int 318 (0 : Nat)), (@Value.int 120 (0 : Nat)), (@Value.str (@Str.ofString "/claim/cut.py") (319 : Nat))])) (@List.toArray (@Option @Value) (@List.nil (@Option @Value))))) ::
    ((nat_lit 88), (@Obj.mk (@Value.type "function") (@Option.none @Nat) (@Data.func (@FuncData.mk (@Str.ofString "__init__") (@Str.ofString "_netrclex.__init__") p88 (FuncBody.stmts b88) s88 (3 : Nat) (@List.nil (@Prod @Str @Nat)) @Value.none @Value.none @Value.none (@Value.str (@Str.ofString "cpy313.netrc") (299 : Nat)) (@Option.none @Nat) (@Value.ref (87 : Nat)) @Value.none (0 : Nat))) (@List.toArray (@Option @Value) (@List.nil (@Option @Value))))) ::
    ((nat_lit 94), (@Obj.mk (@Value.type "code") (@Option.none @Nat) (@Data.fields (@List.toArray @Value [(@Value.str (@Str.ofString "_read_char") (321 : Nat)), (@Value.str (@Str.ofString "_netrclex._read_char") (322 : Nat)), (@Value.str (@Str.ofString "/claim/cut.py") (323 : Nat)), (@Value.int 126 (0 : Nat)), (@Value.int 1 (0 : Nat)), (@Value.int 0 (0 : Nat)), (@Value.int 0 (0 : Nat)), (@Value.int 3 (0 : Nat)), (@Value.ref (89 : Nat)), (@Value.bool @Bool.true), (@Value.int 181 (0 : Nat)), (@Value.ref (90 : Nat)), @Value.none, (@Value.ref (91 : Nat)), (@Value.ref (92 : Nat)), (@Value.ref (93 : Nat)), (@Value.int 326 (0 : Nat)), (@Value.int 126 (0 : Nat)), (@Value.str (@Str.ofString "/claim/cut.py") (327 : Nat))])) (@List.toArray (@Option @Value) (@List.nil (@Option @Value))))) ::
    ((nat_lit 95), (@Obj.mk (@Value.type "function") (@Option.none @Nat) (@Data.func (@FuncData.mk (@Str.ofString "_read_char") (@Str.ofString "_netrclex._read_char") p95 (FuncBody.stmts b95) s95 (3 : Nat) (@List.nil (@Prod @Str @Nat)) @Value.none @Value.none @Value.none (@Value.str (@Str.ofString "cpy313.netrc") (299 : Nat)) (@Option.none @Nat) (@Value.ref (94 : Nat)) @Value.none (0 : Nat))) (@List.toArray (@Option @Value) (@List.nil (@Option @Value))))) ::
    ((nat_lit 101), (@Obj.mk (@Value.type "code") (@Option.none @Nat) (@Data.fields (@List.toArray @Value [(@Value.str (@Str.ofString "get_token") (329 : Nat)), (@Value.str (@Str.ofString "_netrclex.get_token") (330 : Nat)), (@Value.str (@Str.ofString "/claim/cut.py") (331 : Nat)), (@Value.int 132 (0 : Nat)), (@Value.int 1 (0 : Nat)), (@Value.int 0 (0 : Nat)), (@Value.int 0 (0 : Nat)), (@Value.int 3 (0 : Nat)), (@Value.ref (96 : Nat)), (@Value.bool @Bool.true), (@Value.int 181 (0 : Nat)), (@Value.ref (97 : Nat)), @Value.none, (@Value.ref (98 : Nat)), (@Value.ref (99 : Nat)), (@Value.ref (100 : Nat)), (@Value.int 336 (0 : Nat)), (@Value.int 132 (0 : Nat)), (@Value.str (@Str.ofString "/claim/cut.py") (337 : Nat))])) (@List.toArray (@Option @Value) (@List.nil (@Option @Value))))) ::
    ((nat_lit 102), (@Obj.mk (@Value.type "function") (@Option.none @Nat) (@Data.func (@FuncData.mk (@Str.ofString "get_token") (@Str.ofString "_netrclex.get_token") p102 (FuncBody.stmts b102) s102 (3 : Nat) (@List.nil (@Prod @Str @Nat)) @Value.none @Value.none @Value.none (@Value.str (@Str.ofString "cpy313.netrc") (299 : Nat)) (@Option.none @Nat) (@Value.ref (101 : Nat)) @Value.none (0 : Nat))) (@List.toArray (@Option @Value) (@List.nil (@Option @Value))))) ::
    ((nat_lit 108), (@Obj.mk (@Value.type "code") (@Option.none @Nat) (@Data.fields (@List.toArray @Value [(@Value.str (@Str.ofString "push_token") (339 : Nat)), (@Value.str (@Str.ofString "_netrclex.push_token") (340 : Nat)), (@Value.str (@Str.ofString "/claim/cut.py") (341 : Nat)), (@Value.int 159 (0 : Nat)), (@Value.int 2 (0 : Nat)), (@Value.int 0 (0 : Nat)), (@Value.int 0 (0 : Nat)), (@Value.int 3 (0 : Nat)), (@Value.ref (103 : Nat)), (@Value.bool @Bool.true), (@Value.int 181 (0 : Nat)), (@Value.ref (104 : Nat)), @Value.none, (@Value.ref (105 : Nat)), (@Value.ref (106 : Nat)), (@Value.ref (107 : Nat)), (@Value.int 344 (0 : Nat)), (@Value.int 159 (0 : Nat)), (@Value.str (@Str.ofString "/claim/cut.py") (345 : Nat))])) (@List.toArray (@Option @Value) (@List.nil (@Option @Value))))) ::
    ((nat_lit 109), (@Obj.mk (@Value.type "function") (@Option.none @Nat) (@Data.func (@FuncData.mk (@Str.ofString "push_token") (@Str.ofString "_netrclex.push_token") p109 (FuncBody.stmts b109) s109 (3 : Nat) (@List.nil (@Prod @Str @Nat)) @Value.none @Value.none @Value.none (@Value.str (@Str.ofString "cpy313.netrc") (299 : Nat)) (@Option.none @Nat) (@Value.ref (108 : Nat)) @Value.none (0 : Nat))) (@List.toArray (@Option @Value) (@List.nil (@Option @Value))))) ::
    ((nat_lit 111), (@Obj.mk (@Value.type "dict") (@Option.none @Nat) (@Data.dict (@List.toArray @DictEntry [(@DictEntry.mk (@PyData.keyHash P (@Str.ofString "__module__")) (@Value.str (@Str.ofString "__module__") (308 : Nat)) (@Value.str (@Str.ofString "cpy313.netrc") (299 : Nat))), (@DictEntry.mk (@PyData.keyHash P (@Str.ofString "__firstlineno__")) (@Value.str (@Str.ofString "__firstlineno__") (312 : Nat)) (@Value.int 118 (311 : Nat))), (@DictEntry.mk (@PyData.keyHash P (@Str.ofString "__init__")) (@Value.str (@Str.ofString "__init__") (320 : Nat)) (@Value.ref (88 : Nat))), (@DictEntry.mk (@PyData.keyHash P (@Str.ofString "_read_char")) (@Value.str (@Str.ofString "_read_char") (328 : Nat)) (@Value.ref (95 : Nat))), (@DictEntry.mk (@PyData.keyHash P (@Str.ofString "get_token")) (@Value.str (@Str.ofString "get_token") (338 : Nat)) (@Value.ref (102 : Nat))), (@DictEntry.mk (@PyData.keyHash P (@Str.ofString "push_token")) (@Value.str (@Str.ofString "push_token") (346 : Nat)) (@Value.ref (109 : Nat))), (@DictEntry.mk (@PyData.keyHash P (@Str.ofString "__static_attributes__")) (@Value.str (@Str.ofString "__static_attributes__") (351 : Nat)) (@Value.ref (110 : Nat))), (@DictEntry.mk (@PyData.keyHash P (@Str.ofString "__dict__")) (@Value.str (@Str.ofString "__dict__") (353 : Nat)) (@Value.ref (113 : Nat))), (@DictEntry.mk (@PyData.keyHash P (@Str.ofString "__weakref__")) (@Value.str (@Str.ofString "__weakref__") (355 : Nat)) (@Value.ref (114 : Nat))), (@DictEntry.mk (@PyData.keyHash P (@Str.ofString "__doc__")) (@Value.str (@Str.ofString "__doc__") (356 : Nat)) @Value.none)]) (4 : Nat)) (@List.toArray (@Option @Value) (@List.nil (@Option @Value))))) ::
    ((nat_lit 112), (@Obj.mk (@Value.type "type") (@Option.none @Nat) (@Data.cls (@ClassData.mk (@Str.ofString "_netrclex") [(@Value.type "object")] [(@Value.ref (112 : Nat)), (@Value.type "object")] (111 : Nat) (@Str.ofString "_netrclex") @Bool.true (@List.nil @Str) (@List.nil @Value) @Bool.false (@Option.none @Bool) @Bool.false)) (@List.toArray (@Option @Value) [(@Option.none @Value), (@Option.none @Value), (@Option.some @Value (@Value.str (@Str.ofString "_netrclex") (301 : Nat))), (@Option.some @Value (@Value.str (@Str.ofString "_netrclex") (309 : Nat))), (@Option.some @Value (@Value.builtin "object.__new__")), (@Option.some @Value (@Value.bool @Bool.true))]))) ::
    ((nat_lit 122), (@Obj.mk (@Value.type "code") (@Option.none @Nat) (@Data.fields (@List.toArray @Value [(@Value.str (@Str.ofString "_law_stream") (361 : Nat)), (@Value.str (@Str.ofString "_law_stream") (362 : Nat)), (@Value.str (@Str.ofString "/claim/cut.py") (363 : Nat)), (@Value.int 162 (0 : Nat)), (@Value.int 1 (0 : Nat)), (@Value.int 0 (0 : Nat)), (@Value.int 0 (0 : Nat)), (@Value.int 3 (0 : Nat)), (@Value.ref (117 : Nat)), (@Value.bool @Bool.true), (@Value.int 181 (0 : Nat)), (@Value.ref (118 : Nat)), @Value.none, (@Value.ref (119 : Nat)), (@Value.ref (120 : Nat)), (@Value.ref (121 : Nat)), (@Value.int 367 (0 : Nat)), (@Value.int 162 (0 : Nat)), (@Value.str (@Str.ofString "/claim/cut.py") (368 : Nat))])) (@List.toArray (@Option @Value) (@List.nil (@Option @Value))))) ::
    ((nat_lit 123), (@Obj.mk (@Value.type "function") (@Option.none @Nat) (@Data.func (@FuncData.mk (@Str.ofString "_law_stream") (@Str.ofString "_law_stream") p123 (FuncBody.stmts b123) s123 (3 : Nat) (@List.nil (@Prod @Str @Nat)) @Value.none @Value.none @Value.none (@Value.str (@Str.ofString "law_pg0241_01") (359 : Nat)) (@Option.none @Nat) (@Value.ref (122 : Nat)) @Value.none (0 : Nat))) (@List.toArray (@Option @Value) (@List.nil (@Option @Value))))) ::
    ((nat_lit 127), (@Obj.mk (@Value.type "code") (@Option.none @Nat) (@Data.fields (@List.toArray @Value [(@Value.str (@Str.ofString "_law_written") (370 : Nat)), (@Value.str (@Str.ofString "_law_written") (371 : Nat)), (@Value.str (@Str.ofString "/claim/cut.py") (372 : Nat)), (@Value.int 166 (0 : Nat)), (@Value.int 2 (0 : Nat)), (@Value.int 0 (0 : Nat)), (@Value.int 0 (0 : Nat)), (@Value.int 3 (0 : Nat)), (@Value.ref (124 : Nat)), (@Value.bool @Bool.true), (@Value.int 181 (0 : Nat)), (@Value.ref (125 : Nat)), @Value.none, @Value.none, @Value.none, (@Value.ref (126 : Nat)), (@Value.int 373 (0 : Nat)), (@Value.int 166 (0 : Nat)), (@Value.str (@Str.ofString "/claim/cut.py") (374 : Nat))])) (@List.toArray (@Option @Value) (@List.nil (@Option @Value))))) ::
    ((nat_lit 128), (@Obj.mk (@Value.type "function") (@Option.none @Nat) (@Data.func (@FuncData.mk (@Str.ofString "_law_written") (@Str.ofString "_law_written") p128 (FuncBody.stmts b128) s128 (3 : Nat) (@List.nil (@Prod @Str @Nat)) @Value.none @Value.none @Value.none (@Value.str (@Str.ofString "law_pg0241_01") (359 : Nat)) (@Option.none @Nat) (@Value.ref (127 : Nat)) @Value.none (0 : Nat))) (@List.toArray (@Option @Value) (@List.nil (@Option @Value))))) ::
    ((nat_lit 134), (@Obj.mk (@Value.type "code") (@Option.none @Nat) (@Data.fields (@List.toArray @Value [(@Value.str (@Str.ofString "_law_back") (376 : Nat)), (@Value.str (@Str.ofString "_law_back") (377 : Nat)), (@Value.str (@Str.ofString "/claim/cut.py") (378 : Nat)), (@Value.int 170 (0 : Nat)), (@Value.int 2 (0 : Nat)), (@Value.int 0 (0 : Nat)), (@Value.int 0 (0 : Nat)), (@Value.int 3 (0 : Nat)), (@Value.ref (129 : Nat)), (@Value.bool @Bool.true), (@Value.int 181 (0 : Nat)), (@Value.ref (130 : Nat)), @Value.none, (@Value.ref (131 : Nat)), (@Value.ref (132 : Nat)), (@Value.ref (133 : Nat)), (@Value.int 382 (0 : Nat)), (@Value.int 170 (0 : Nat)), (@Value.str (@Str.ofString "/claim/cut.py") (383 : Nat))])) (@List.toArray (@Option @Value) (@List.nil (@Option @Value))))) ::
    ((nat_lit 135), (@Obj.mk (@Value.type "function") (@Option.none @Nat) (@Data.func (@FuncData.mk (@Str.ofString "_law_back") (@Str.ofString "_law_back") p135 (FuncBody.stmts b135) s135 (3 : Nat) (@List.nil (@Prod @Str @Nat)) @Value.none @Value.none @Value.none (@Value.str (@Str.ofString "law_pg0241_01") (359 : Nat)) (@Option.none @Nat) (@Value.ref (134 : Nat)) @Value.none (0 : Nat))) (@List.toArray (@Option @Value) (@List.nil (@Option @Value))))) ::
    ((nat_lit 141), (@Obj.mk (@Value.type "code") (@Option.none @Nat) (@Data.fields (@List.toArray @Value [(@Value.str (@Str.ofString "_law_forth") (385 : Nat)), (@Value.str (@Str.ofString "_law_forth") (386 : Nat)), (@Value.str (@Str.ofString "/claim/cut.py") (387 : Nat)), (@Value.int 174 (0 : Nat)), (@Value.int 2 (0 : Nat)), (@Value.int 0 (0 : Nat)), (@Value.int 0 (0 : Nat)), (@Value.int 3 (0 : Nat)), (@Value.ref (136 : Nat)), (@Value.bool @Bool.true), (@Value.int 181 (0 : Nat)), (@Value.ref (137 : Nat)), @Value.none, (@Value.ref (138 : Nat)), (@Value.ref (139 : Nat)), (@Value.ref (140 : Nat)), (@Value.int 391 (0 : Nat)), (@Value.int 174 (0 : Nat)), (@Value.str (@Str.ofString "/claim/cut.py") (392 : Nat))])) (@List.toArray (@Option @Value) (@List.nil (@Option @Value))))) ::
    ((nat_lit 142), (@Obj.mk (@Value.type "function") (@Option.none @Nat) (@Data.func (@FuncData.mk (@Str.ofString "_law_forth") (@Str.ofString "_law_forth") p142 (FuncBody.stmts b142) s142 (3 : Nat) (@List.nil (@Prod @Str @Nat)) @Value.none @Value.none @Value.none (@Value.str (@Str.ofString "law_pg0241_01") (359 : Nat)) (@Option.none @Nat) (@Value.ref (141 : Nat)) @Value.none (0 : Nat))) (@List.toArray (@Option @Value) (@List.nil (@Option @Value))))) ::
    ((nat_lit 146), (@Obj.mk (@Value.type "code") (@Option.none @Nat) (@Data.fields (@List.toArray @Value [(@Value.str (@Str.ofString "law") (394 : Nat)), (@Value.str (@Str.ofString "law") (395 : Nat)), (@Value.str (@Str.ofString "/claim/cut.py") (396 : Nat)), (@Value.int 178 (0 : Nat)), (@Value.int 1 (0 : Nat)), (@Value.int 0 (0 : Nat)), (@Value.int 0 (0 : Nat)), (@Value.int 3 (0 : Nat)), (@Value.ref (143 : Nat)), (@Value.bool @Bool.true), (@Value.int 181 (0 : Nat)), (@Value.ref (144 : Nat)), @Value.none, @Value.none, @Value.none, (@Value.ref (145 : Nat)), (@Value.int 397 (0 : Nat)), (@Value.int 178 (0 : Nat)), (@Value.str (@Str.ofString "/claim/cut.py") (398 : Nat))])) (@List.toArray (@Option @Value) (@List.nil (@Option @Value))))) ::
    ((nat_lit 147), (@Obj.mk (@Value.type "function") (@Option.none @Nat) (@Data.func (@FuncData.mk (@Str.ofString "law") (@Str.ofString "law") p147 (FuncBody.stmts b147) s147 (3 : Nat) (@List.nil (@Prod @Str @Nat)) @Value.none @Value.none @Value.none (@Value.str (@Str.ofString "law_pg0241_01") (359 : Nat)) (@Option.none @Nat) (@Value.ref (146 : Nat)) @Value.none (0 : Nat))) (@List.toArray (@Option @Value) (@List.nil (@Option @Value))))) ::
    []) _ _ _ ?h23 _ _ _ ?h32 _ _ _ ?h39 _ _ _ ?h46 _ _ _ ?h53 _ _ _ ?h60 _ _ _ ?h67 _ _ _ ?h74 _ _ _ ?h88 _ _ _ ?h95 _ _ _ ?h102 _ _ _ ?h109 _ _ _ ?h123 _ _ _ ?h128 _ _ _ ?h135 _ _ _ ?h142 _ _ _ ?h147
  case h23 => (conv => lhs; whnf; zeta)
  case h32 => (conv => lhs; whnf; zeta)
  case h39 => (conv => lhs; whnf; zeta)
  case h46 => (conv => lhs; whnf; zeta)
  case h53 => (conv => lhs; whnf; zeta)
  case h60 => (conv => lhs; whnf; zeta)
  case h67 => (conv => lhs; whnf; zeta)
  case h74 => (conv => lhs; whnf; zeta)
  case h88 => (conv => lhs; whnf; zeta)
  case h95 => (conv => lhs; whnf; zeta)
  case h102 => (conv => lhs; whnf; zeta)
  case h109 => (conv => lhs; whnf; zeta)
  case h123 => (conv => lhs; whnf; zeta)
  case h128 => (conv => lhs; whnf; zeta)
  case h135 => (conv => lhs; whnf; zeta)
  case h142 => (conv => lhs; whnf; zeta)
  case h147 => (conv => lhs; whnf; zeta)
def keysK : List Addr := [2, 3, 15, 16, 22, 23, 24, 25, 31, 32, 38, 39, 45, 46, 52, 53, 59, 60, 66, 67, 73, 74, 87, 88, 94, 95, 101, 102, 108, 109, 111, 112, 122, 123, 127, 128, 134, 135, 141, 142, 146, 147]
noncomputable def view : Program := { PySem.Challenge.rw_pg0241_01.prog with main := { PySem.Challenge.rw_pg0241_01.prog.main with body := [4, 5, 6, 7, 8, 9, 10, 12, 14, 15, 16, 17, 18].map mainAt } }
end
section
example : True := by w_top off; trivial
/-! flat ∃ and ∧: one case, one motive -/
inductive Ex2 {A1 A2 : Type} (P : A1 → A2 → Prop) : Prop
  | mk (x1 : A1) (x2 : A2) (h : P x1 x2) : Ex2 P
inductive Ex4 {A1 A2 A3 A4 : Type} (P : A1 → A2 → A3 → A4 → Prop) : Prop
  | mk (x1 : A1) (x2 : A2) (x3 : A3) (x4 : A4) (h : P x1 x2 x3 x4) : Ex4 P
inductive Ex5 {A1 A2 A3 A4 A5 : Type} (P : A1 → A2 → A3 → A4 → A5 → Prop) : Prop
  | mk (x1 : A1) (x2 : A2) (x3 : A3) (x4 : A4) (x5 : A5) (h : P x1 x2 x3 x4 x5) : Ex5 P
inductive Ex6 {A1 A2 A3 A4 A5 A6 : Type} (P : A1 → A2 → A3 → A4 → A5 → A6 → Prop) : Prop
  | mk (x1 : A1) (x2 : A2) (x3 : A3) (x4 : A4) (x5 : A5) (x6 : A6) (h : P x1 x2 x3 x4 x5 x6) : Ex6 P
inductive Ex7 {A1 A2 A3 A4 A5 A6 A7 : Type} (P : A1 → A2 → A3 → A4 → A5 → A6 → A7 → Prop) : Prop
  | mk (x1 : A1) (x2 : A2) (x3 : A3) (x4 : A4) (x5 : A5) (x6 : A6) (x7 : A7) (h : P x1 x2 x3 x4 x5 x6 x7) : Ex7 P
inductive Ex8 {A1 A2 A3 A4 A5 A6 A7 A8 : Type} (P : A1 → A2 → A3 → A4 → A5 → A6 → A7 → A8 → Prop) : Prop
  | mk (x1 : A1) (x2 : A2) (x3 : A3) (x4 : A4) (x5 : A5) (x6 : A6) (x7 : A7) (x8 : A8) (h : P x1 x2 x3 x4 x5 x6 x7 x8) : Ex8 P
inductive Ex10 {A1 A2 A3 A4 A5 A6 A7 A8 A9 A10 : Type} (P : A1 → A2 → A3 → A4 → A5 → A6 → A7 → A8 → A9 → A10 → Prop) : Prop
  | mk (x1 : A1) (x2 : A2) (x3 : A3) (x4 : A4) (x5 : A5) (x6 : A6) (x7 : A7) (x8 : A8) (x9 : A9) (x10 : A10) (h : P x1 x2 x3 x4 x5 x6 x7 x8 x9 x10) : Ex10 P
inductive Ex11 {A1 A2 A3 A4 A5 A6 A7 A8 A9 A10 A11 : Type} (P : A1 → A2 → A3 → A4 → A5 → A6 → A7 → A8 → A9 → A10 → A11 → Prop) : Prop
  | mk (x1 : A1) (x2 : A2) (x3 : A3) (x4 : A4) (x5 : A5) (x6 : A6) (x7 : A7) (x8 : A8) (x9 : A9) (x10 : A10) (x11 : A11) (h : P x1 x2 x3 x4 x5 x6 x7 x8 x9 x10 x11) : Ex11 P
inductive Ex25 {A1 A2 A3 A4 A5 A6 A7 A8 A9 A10 A11 A12 A13 A14 A15 A16 A17 A18 A19 A20 A21 A22 A23 A24 A25 : Type} (P : A1 → A2 → A3 → A4 → A5 → A6 → A7 → A8 → A9 → A10 → A11 → A12 → A13 → A14 → A15 → A16 → A17 → A18 → A19 → A20 → A21 → A22 → A23 → A24 → A25 → Prop) : Prop
  | mk (x1 : A1) (x2 : A2) (x3 : A3) (x4 : A4) (x5 : A5) (x6 : A6) (x7 : A7) (x8 : A8) (x9 : A9) (x10 : A10) (x11 : A11) (x12 : A12) (x13 : A13) (x14 : A14) (x15 : A15) (x16 : A16) (x17 : A17) (x18 : A18) (x19 : A19) (x20 : A20) (x21 : A21) (x22 : A22) (x23 : A23) (x24 : A24) (x25 : A25) (h : P x1 x2 x3 x4 x5 x6 x7 x8 x9 x10 x11 x12 x13 x14 x15 x16 x17 x18 x19 x20 x21 x22 x23 x24 x25) : Ex25 P
inductive And4 (p1 p2 p3 p4 : Prop) : Prop
  | mk (h1 : p1) (h2 : p2) (h3 : p3) (h4 : p4) : And4 p1 p2 p3 p4
inductive And5 (p1 p2 p3 p4 p5 : Prop) : Prop
  | mk (h1 : p1) (h2 : p2) (h3 : p3) (h4 : p4) (h5 : p5) : And5 p1 p2 p3 p4 p5
inductive And6 (p1 p2 p3 p4 p5 p6 : Prop) : Prop
  | mk (h1 : p1) (h2 : p2) (h3 : p3) (h4 : p4) (h5 : p5) (h6 : p6) : And6 p1 p2 p3 p4 p5 p6
inductive And7 (p1 p2 p3 p4 p5 p6 p7 : Prop) : Prop
  | mk (h1 : p1) (h2 : p2) (h3 : p3) (h4 : p4) (h5 : p5) (h6 : p6) (h7 : p7) : And7 p1 p2 p3 p4 p5 p6 p7
inductive And8 (p1 p2 p3 p4 p5 p6 p7 p8 : Prop) : Prop
  | mk (h1 : p1) (h2 : p2) (h3 : p3) (h4 : p4) (h5 : p5) (h6 : p6) (h7 : p7) (h8 : p8) : And8 p1 p2 p3 p4 p5 p6 p7 p8
inductive And9 (p1 p2 p3 p4 p5 p6 p7 p8 p9 : Prop) : Prop
  | mk (h1 : p1) (h2 : p2) (h3 : p3) (h4 : p4) (h5 : p5) (h6 : p6) (h7 : p7) (h8 : p8) (h9 : p9) : And9 p1 p2 p3 p4 p5 p6 p7 p8 p9
inductive And10 (p1 p2 p3 p4 p5 p6 p7 p8 p9 p10 : Prop) : Prop
  | mk (h1 : p1) (h2 : p2) (h3 : p3) (h4 : p4) (h5 : p5) (h6 : p6) (h7 : p7) (h8 : p8) (h9 : p9) (h10 : p10) : And10 p1 p2 p3 p4 p5 p6 p7 p8 p9 p10
inductive And11 (p1 p2 p3 p4 p5 p6 p7 p8 p9 p10 p11 : Prop) : Prop
  | mk (h1 : p1) (h2 : p2) (h3 : p3) (h4 : p4) (h5 : p5) (h6 : p6) (h7 : p7) (h8 : p8) (h9 : p9) (h10 : p10) (h11 : p11) : And11 p1 p2 p3 p4 p5 p6 p7 p8 p9 p10 p11
inductive And12 (p1 p2 p3 p4 p5 p6 p7 p8 p9 p10 p11 p12 : Prop) : Prop
  | mk (h1 : p1) (h2 : p2) (h3 : p3) (h4 : p4) (h5 : p5) (h6 : p6) (h7 : p7) (h8 : p8) (h9 : p9) (h10 : p10) (h11 : p11) (h12 : p12) : And12 p1 p2 p3 p4 p5 p6 p7 p8 p9 p10 p11 p12
inductive And21 (p1 p2 p3 p4 p5 p6 p7 p8 p9 p10 p11 p12 p13 p14 p15 p16 p17 p18 p19 p20 p21 : Prop) : Prop
  | mk (h1 : p1) (h2 : p2) (h3 : p3) (h4 : p4) (h5 : p5) (h6 : p6) (h7 : p7) (h8 : p8) (h9 : p9) (h10 : p10) (h11 : p11) (h12 : p12) (h13 : p13) (h14 : p14) (h15 : p15) (h16 : p16) (h17 : p17) (h18 : p18) (h19 : p19) (h20 : p20) (h21 : p21) : And21 p1 p2 p3 p4 p5 p6 p7 p8 p9 p10 p11 p12 p13 p14 p15 p16 p17 p18 p19 p20 p21
inductive HasTop (g : Heap) : Prop
  | mk (p : Program) (loose : List Str) (mean : ExcName → Option Value) (mg mb : Str → Option Value) (T : Top p loose mean mg mb g) : HasTop g
abbrev P0 := PySem.Challenge.pw_pg0241_01

def Sub (g h : Heap) : Prop := ∀ b o, g.get? b = some o → h.get? b = some o
theorem Sub.refl (h : Heap) : Sub h h := fun _ _ e => e
theorem Sub.trans {a b c : Heap} (x : Sub a b) (y : Sub b c) : Sub a c := fun l o e => y l o (x l o e)

/-- all that is not named stays -/
def Keep (S : List Addr) (h h' : Heap) : Prop := ∀ b o, b ∉ S → h.get? b = some o → h'.get? b = some o
theorem Keep.sub {S : List Addr} {h h' : Heap} (k : Sub h h') : Keep S h h' := fun b o _ e => k b o e
theorem Keep.nil {h h' : Heap} (k : Keep [] h h') : Sub h h' := fun b o e => k b o List.not_mem_nil e
theorem keep_of_hide {S : List Addr} {h h' : Heap} (k : Sub (hideAll h S) h') : Keep S h h' := fun b o hb e => k b o (hideAll_get S e hb)
theorem sub_hide {S : List Addr} {g h : Heap} (k : Sub g h) (hS : ∀ b ∈ S, g.get? b = none) : Sub g (hideAll h S) := fun b o e =>
  hideAll_get S (k b o e) fun hb => by rw [hS b hb] at e; cases e

structure Bs (w : World) (g : Heap) : Prop where
  X : (heapK w.params).In g
  T : HasTop g
  c48 : CodeHd g 52 48
  c55 : CodeHd g 59 55
  c118 : CodeHd g 122 118
theorem Bs.keeps {w : World} {g h : Heap} (B : Bs w g) (k : Sub g h) : Bs w h :=
  ⟨B.X.keeps k, let ⟨p, l, me, mg, mb, T⟩ := B.T; ⟨p, l, me, mg, mb, T.keeps k⟩, B.c48.keeps k, B.c55.keeps k, B.c118.keeps k⟩

/-- room left: k Python frames -/
structure Rm (A : Around) (k : Nat) : Prop where
  hh : A.handled = none
  dp : A.depth + k < 900
  un : A.units + 60 * k < 9000
theorem Rm.deeper {A : Around} {k : Nat} (r : Rm A (k + 1)) (env : Env) : Rm (A.deeper env) k :=
  ⟨r.hh, by have := r.dp; show A.depth + 1 + k < 900; omega, by have := r.un; show A.units + 3 + 60 * k < 9000; omega⟩
theorem Rm.less {A : Around} {k j : Nat} (r : Rm A k) (h : j ≤ k) : Rm A j := ⟨r.hh, by have := r.dp; omega, by have := r.un; omega⟩
theorem Rm.room {A : Around} {k : Nat} (r : Rm A k) : A.depth < recursionLimit := by have := r.dp; show A.depth < 1000; omega
theorem Rm.unit {A : Around} {k : Nat} (r : Rm A k) : A.units < cLine := by have := r.un; show A.units < 9900; omega

theorem around_none {A : Around} {k : Nat} (r : Rm A k) {P : Around → Prop} (h : ∀ d fs gd u, Rm ⟨none, d, fs, gd, u⟩ k → P ⟨none, d, fs, gd, u⟩) : P A := by
  obtain ⟨hA, d, fs, gd, u⟩ := A
  obtain rfl : hA = none := r.hh
  exact h _ _ _ _ r

/-- what is the run's own: stands in h, is not in the base g -/
def Own (g h : Heap) (own : List (Addr × Obj)) : Prop := ∀ p ∈ own, h.get? p.1 = some p.2 ∧ g.get? p.1 = none
abbrev ads (own : List (Addr × Obj)) : List Addr := own.map (·.1)
theorem Own.nil {g h : Heap} : Own g h [] := fun _ hp => nomatch hp
theorem Own.cons {g h : Heap} {a : Addr} {o : Obj} {own : List (Addr × Obj)} (h1 : h.get? a = some o) (h2 : g.get? a = none) (r : Own g h own) : Own g h ((a, o) :: own) :=
  List.forall_mem_cons.mpr ⟨⟨h1, h2⟩, r⟩
theorem Own.app {g h : Heap} {x y : List (Addr × Obj)} (a : Own g h x) (b : Own g h y) : Own g h (x ++ y) := fun p hp => (List.mem_append.mp hp).elim (a p) (b p)
theorem own_of_news {g h : Heap} {L : Addr} {news own : List (Addr × Obj)} (N : News g L h news) (hs : ∀ p ∈ own, p ∈ news) : Own g h own := fun p hp => ⟨(N p (hs p hp)).1, (N p (hs p hp)).2.2⟩

/-- a call of a plain def whose frame keeps no cells: what it may change (own) stands in the ledger -/
theorem enterW {w : World} {A : Around} {k : Nat} {R : Result → Shared → Prop} {s : Shared} {g : Heap} {own : List (Addr × Obj)} {f : Addr} {name qual : Str} {params : Arguments} {body : List Stmt} {scope : Scope} {cl : List (Str × Addr)} {dV kV doc pm cdv ct : Value} {an : Option Addr} {fo : Obj} {args : Args} {binds : List (Str × Value)}
    (B : Bs w g) (hg : Sub g s.heap) (hown : Own g s.heap own)
    (ho : s.heap.get? f = some fo) (hd : fo.data = .func (fnX name qual params body scope cl dV kV doc pm an cdv ct)) (hcd : s.heap.CodeRec cdv qual) (hr : Rm A (k + 1))
    (hbind : BindsTo s (fnX name qual params body scope cl dV kV doc pm an cdv ct) args binds) (hloc : ∀ y ∈ binds, scope.names.lookup y.1 = some .local)
    (h : ∀ g₁ L h₁ tk, Sub g g₁ → Keep (ads own) s.heap g₁ → Sub g₁ s.heap → (∀ b, s.heap.get? b = none → g₁.get? b = none) → (∀ b, g₁.get? b = none → b ∉ ads own → s.heap.get? b = none) → s.heap.get? L = none → (∀ p ∈ own, p.1 < L) → Bs w g₁ → Fr g₁ L h₁ (fun y => binds.reverse.lookup y) → News g₁ L h₁ own → ∀ d fs gd u, Rm ⟨none, d, fs, gd, u⟩ k →
      wpAny (model P0 w) ⟨none, d, fs, gd, u⟩ (execs body (envX qual scope L f cdv cl))
        (fun fl s' => R (.ok (.ret (match fl with | .ret v => v | _ => .none))) s') (fun _ _ => False)
        { s with heap := h₁, toks := tk })
    (hco : scope.isCoroutine = false := by rfl) (hgen : scope.isGenerator = false := by rfl) (hk : scope.kind = .function := by rfl)
    (hcell : ∀ x ∈ scope.names, x.2 ≠ .cell := by decide) : codeAny (model P0 w) A (.call (.ref f) args) R s := by
  obtain ⟨p, loose, mean, mg, mb, T⟩ := B.T
  refine codeAny_call_def (fd := fnX name qual params body scope cl dV kV doc pm an cdv ct) (body := body) (binds := binds) hr.room ho hd (T.nolimit.keeps hg) hcd rfl hbind hcell hloc (fun h₁ hns hk₁ => ?_) hco hgen hk
  have hS : ∀ b ∈ ads own, g.get? b = none := fun b hb => by
    obtain ⟨q, hq, rfl⟩ := List.mem_map.mp hb
    exact (hown q hq).2
  have hsub := sub_hide hg hS
  refine wpAny_mono (around_none (P := fun A' => wpAny (model P0 w) A' (execs body (envX qual scope s.heap.objs.size f cdv cl)) _ _ _) (hr.deeper (envX qual scope s.heap.objs.size f cdv cl)) (h (hideAll s.heap (ads own)) s.heap.objs.size h₁ _ hsub (fun b o hb e => hideAll_get _ e hb) (fun b o e => of_hideAll _ e) (fun b hb => ?_) (fun b hb hn => ?_) ?_ (fun q hq => Heap.lt_size (hown q hq).1) (B.keeps hsub) ⟨hns, fun b o e => hk₁ b o (of_hideAll _ e), Nat.le_of_eq (hideAll_size _ _)⟩
    (fun q hq => ⟨hk₁ _ _ (hown q hq).1, Nat.ne_of_lt (Heap.lt_size (hown q hq).1), hideAll_none _ (List.mem_map_of_mem hq)⟩))) (fun _ _ q => q) (fun _ _ q => q.elim)
  · cases q : (hideAll s.heap (ads own)).get? b with
    | none => rfl
    | some o => rw [of_hideAll _ q] at hb; cases hb
  · cases q : s.heap.get? b with
    | none => rfl
    | some o => rw [hideAll_get _ q hn] at hb; cases hb
  · exact Heap.get?_none_of_le (Nat.le_refl _)

/-- the same for a def of the text's own top -/
theorem enterK {w : World} {A : Around} {k : Nat} {R : Result → Shared → Prop} {s : Shared} {g : Heap} {own : List (Addr × Obj)} {f : Addr} {name qual : Str} {params : Arguments} {body : List Stmt} {scope : Scope} {dV kV doc pm cdv ct oc : Value} {an od : Option Addr} {osl : Array (Option Value)} {args : Args} {binds : List (Str × Value)}
    (B : Bs w g) (hg : Sub g s.heap) (hown : Own g s.heap own)
    (ho : (heapK w.params).lookup f = some ⟨oc, od, .func (fnX name qual params body scope [] dV kV doc pm an cdv ct), osl⟩) (hcd : codeIn (heapK w.params) cdv qual = true) (hr : Rm A (k + 1))
    (hbind : BindsTo s (fnX name qual params body scope [] dV kV doc pm an cdv ct) args binds) (hloc : ∀ y ∈ binds, scope.names.lookup y.1 = some .local)
    (h : ∀ g₁ L h₁ tk, Sub g g₁ → Keep (ads own) s.heap g₁ → Sub g₁ s.heap → (∀ b, s.heap.get? b = none → g₁.get? b = none) → (∀ b, g₁.get? b = none → b ∉ ads own → s.heap.get? b = none) → s.heap.get? L = none → (∀ p ∈ own, p.1 < L) → Bs w g₁ → Fr g₁ L h₁ (fun y => binds.reverse.lookup y) → News g₁ L h₁ own → ∀ d fs gd u, Rm ⟨none, d, fs, gd, u⟩ k →
      wpAny (model P0 w) ⟨none, d, fs, gd, u⟩ (execs body (envX qual scope L f cdv []))
        (fun fl s' => R (.ok (.ret (match fl with | .ret v => v | _ => .none))) s') (fun _ _ => False)
        { s with heap := h₁, toks := tk })
    (hco : scope.isCoroutine = false := by rfl) (hgen : scope.isGenerator = false := by rfl) (hk : scope.kind = .function := by rfl)
    (hcell : ∀ x ∈ scope.names, x.2 ≠ .cell := by decide) : codeAny (model P0 w) A (.call (.ref f) args) R s :=
  enterW B hg hown (hg _ _ (B.X _ _ ho)) rfl (codeRec_of (B.X.keeps hg) hcd) hr hbind hloc h hco hgen hk hcell
end
section
example : True := by w_top off; trivial
/-! the text's own parts, named by their place -/
def stmtAt (n i : Nat) : Stmt := match PySem.Challenge.pw_pg0241_01.main.body[n]? with
  | some (.FunctionDef _ _ b _ _ _ _ _ _ _) => (b[i]?).getD (.Pass default)
  | _ => .Pass default
def defParams : Stmt → Arguments | .FunctionDef _ a _ _ _ _ _ _ _ _ => a | _ => ⟨[], [], none, [], [], none, []⟩
def defBody : Stmt → List Stmt | .FunctionDef _ _ b _ _ _ _ _ _ _ => b | _ => []
def defScope : Stmt → Scope | .FunctionDef _ _ _ _ _ _ s _ _ _ => s | _ => default

/-! the ledger's turns -/
section
variable {g h h' : Heap} {L : Addr} {m : Str → Option Value} {news : List (Addr × Obj)} {ad : List Addr}
theorem set_split {i : Nat} {d : Addr} {o : Obj} (hi : news[i]? = some (d, o)) (o' : Obj) : news = news.take i ++ (d, o) :: news.drop (i + 1) ∧ news.set i (d, o') = news.take i ++ (d, o') :: news.drop (i + 1) := by
  obtain ⟨hl, he⟩ := List.getElem?_eq_some_iff.mp hi
  refine ⟨?_, List.set_eq_take_append_cons_drop.trans (if_pos hl)⟩
  rw [← he, ← List.drop_eq_getElem_cons hl, List.take_append_drop]
theorem nd_split {pre post : List (Addr × Obj)} {d : Addr} {o : Obj} (nd : ((pre ++ (d, o) :: post).map (·.1)).Nodup) : (∀ p ∈ pre, p.1 ≠ d) ∧ ∀ p ∈ post, p.1 ≠ d := by
  rw [List.map_append, List.map_cons, List.nodup_append] at nd
  refine ⟨fun p hp e => nd.2.2 _ (List.mem_map_of_mem hp) d (.head _) e, fun p hp e => ?_⟩
  have h2 := (List.nodup_cons.mp nd.2.1).1
  exact h2 (List.mem_map.mpr ⟨p, hp, e⟩)
theorem upd_app {d : Addr} {o o' : Obj} : ∀ {pre post : List (Addr × Obj)}, (∀ p ∈ pre, p.1 ≠ d) → (∀ p ∈ post, p.1 ≠ d) → Upd d o o' (pre ++ (d, o) :: post) (pre ++ (d, o') :: post)
  | [], _, _, h2 => .head h2
  | p :: pre, post, h1, h2 => .tail (h1 p (.head _)) (upd_app (fun q hq => h1 q (.tail _ hq)) h2)
theorem updF_app {d : Addr} {o : Obj} : ∀ {pre post : List (Addr × Obj)}, (∀ p ∈ pre, p.1 ≠ d) → (∀ p ∈ post, p.1 ≠ d) → UpdF d o (pre ++ (d, o) :: post) (fun o' => pre ++ (d, o') :: post)
  | [], _, _, h2 => .head h2
  | p :: pre, post, h1, h2 => .tail (h1 p (.head _)) (updF_app (fun q hq => h1 q (.tail _ hq)) h2)
theorem upd_at {i : Nat} {d : Addr} {o o' : Obj} (nd : ad.Nodup) (ha : news.map (·.1) = ad) (hi : news[i]? = some (d, o)) : Upd d o o' news (news.set i (d, o')) := by
  obtain ⟨e1, e2⟩ := set_split hi o'
  rw [e2]
  subst ha
  rw [e1] at nd
  obtain ⟨h1, h2⟩ := nd_split nd
  have := upd_app (o := o) (o' := o') h1 h2
  rwa [← e1] at this
theorem updF_at {i : Nat} {d : Addr} {o : Obj} (nd : ad.Nodup) (ha : news.map (·.1) = ad) (hi : news[i]? = some (d, o)) : UpdF d o news (fun o' => news.set i (d, o')) := by
  obtain ⟨e1, _⟩ := set_split hi o
  have e : (fun o' => news.set i (d, o')) = fun o' => news.take i ++ (d, o') :: news.drop (i + 1) := funext fun o' => (set_split hi o').2
  rw [e]
  subst ha
  rw [e1] at nd
  obtain ⟨h1, h2⟩ := nd_split nd
  have := updF_app (o := o) h1 h2
  rwa [← e1] at this
theorem nd_cons {x : Addr} (nd : ad.Nodup) (ha : news.map (·.1) = ad) (h : ∀ p ∈ news, p.1 < x) : (x :: ad).Nodup := by
  subst ha
  refine List.nodup_cons.mpr ⟨fun hm => ?_, nd⟩
  obtain ⟨p, hp, e⟩ := List.mem_map.mp hm
  exact absurd (h p hp) (by rw [← e]; exact Nat.lt_irrefl _)
theorem nd_new {x : Addr} {o : Obj} (nd : ad.Nodup) (ha : news.map (·.1) = ad) (N : News g L h news) (hx : h.get? x = none) : (x :: ad).Nodup := by
  subst ha
  refine List.nodup_cons.mpr ⟨fun hm => ?_, nd⟩
  obtain ⟨p, hp, e⟩ := List.mem_map.mp hm
  have := (N p hp).1
  rw [e, hx] at this; cases this
end
theorem ndt {a : Addr} {l : List Addr} (h : (a :: l).Nodup) : l.Nodup := (List.nodup_cons.mp h).2
section
variable {d : Addr} {o o' : Obj} {p : Addr × Obj} {r r' : List (Addr × Obj)} {ad : List Addr} {g : Obj → List (Addr × Obj)}
theorem nd_off (nd : (d :: ad).Nodup) (ha : r.map (·.1) = ad) : ∀ q ∈ r, q.1 ≠ d := fun q hq e => (List.nodup_cons.mp nd).1 (ha ▸ e ▸ List.mem_map_of_mem hq)
theorem upd_z (nd : (d :: ad).Nodup) (ha : r.map (·.1) = ad) : Upd d o o' ((d, o) :: r) ((d, o') :: r) := .head (nd_off nd ha)
theorem upd_s {a : Addr} {oa : Obj} (nd : (a :: ad).Nodup) (ha : r.map (·.1) = ad) (h : Upd d o o' r r') : Upd d o o' ((a, oa) :: r) ((a, oa) :: r') := by
  refine .tail (fun e => ?_) h
  obtain ⟨pre, post, e1, _, _, _⟩ := h.split
  exact nd_off nd ha (d, o) (e1 ▸ List.mem_append_right _ (.head _)) e.symm
theorem updF_z (nd : (d :: ad).Nodup) (ha : r.map (·.1) = ad) : UpdF d o ((d, o) :: r) (fun o' => (d, o') :: r) := .head (nd_off nd ha)
theorem updF_s {a : Addr} {oa : Obj} (nd : (a :: ad).Nodup) (ha : r.map (·.1) = ad) (h : UpdF d o r g) : UpdF d o ((a, oa) :: r) (fun o' => (a, oa) :: g o') := by
  refine .tail (fun e => ?_) h
  obtain ⟨pre, post, e1, _, _, _⟩ := h.split
  exact nd_off nd ha (d, o) (e1 ▸ List.mem_append_right _ (.head _)) e.symm
end
end
section
example : True := by w_top off; trivial
/-! behind a call: the ledger anew -/
section
variable {g h h' : Heap} {L : Addr} {m : Str → Option Value} {news own own' : List (Addr × Obj)} {ad : List Addr}
theorem Fr.kept {S : List Addr} (F : Fr g L h m) (k : Keep S h h') (hS : ∀ b ∈ S, g.get? b = none) (hL : L ∉ S) : Fr g L h' m := by
  obtain ⟨oL, es, ep, e1, r⟩ := F.ns
  exact ⟨⟨oL, es, ep, k _ _ hL e1, r⟩, fun b o e => k b o (fun hb => by rw [hS b hb] at e; cases e) (F.keep b o e), F.above⟩
theorem Fr.subs (F : Fr g L h m) (k : Sub h h') : Fr g L h' m := Fr.kept F (S := []) (Keep.sub k) (fun _ hb => nomatch hb) List.not_mem_nil
theorem News.subs (N : News g L h news) (k : Sub h h') : News g L h' news := fun p hp => ⟨k _ _ (N p hp).1, (N p hp).2⟩
theorem News.add {l : Addr} {o : Obj} (F : Fr g L h m) (N : News g L h' news) (hl : h.get? l = none) (ho : h'.get? l = some o) : News g L h' ((l, o) :: news) := by
  refine List.forall_mem_cons.mpr ⟨⟨ho, ?_, ?_⟩, N⟩
  · rintro rfl
    obtain ⟨oL, es, ep, e1, r⟩ := F.ns
    rw [hl] at e1; cases e1
  · cases q : g.get? l with
    | none => rfl
    | some o' => have := F.keep _ _ q; rw [hl] at this; cases this
theorem nd_add {l : Addr} (nd : ad.Nodup) (ha : news.map (·.1) = ad) (N : News g L h news) (hl : h.get? l = none) : (l :: ad).Nodup := nd_new (o := default) nd ha N hl

def put (news : List (Addr × Obj)) : List Nat → List (Addr × Obj) → List (Addr × Obj)
  | i :: is, p :: ps => (put news is ps).set i p
  | _, _ => news
def pick (news : List (Addr × Obj)) (is : List Nat) : List (Addr × Obj) := is.filterMap fun i => news[i]?
theorem put_mem {news : List (Addr × Obj)} : ∀ {is : List Nat} {own' : List (Addr × Obj)} {j : Nat} {p : Addr × Obj}, is.length = own'.length → (put news is own')[j]? = some p → p ∈ own' ∨ (j ∉ is ∧ news[j]? = some p)
  | [], [], j, p, _, e => .inr ⟨List.not_mem_nil, e⟩
  | i :: is, q :: ps, j, p, hl, e => by
    have hl' : is.length = ps.length := Nat.succ.inj hl
    show p ∈ q :: ps ∨ _
    have e' : ((put news is ps).set i q)[j]? = some p := e
    rw [List.getElem?_set] at e'
    by_cases h : i = j
    · subst h
      rw [if_pos rfl] at e'
      split at e'
      · cases e'; exact .inl (.head _)
      · cases e'
    · rw [if_neg h] at e'
      rcases put_mem hl' e' with h1 | ⟨h1, h2⟩
      · exact .inl (.tail _ h1)
      · exact .inr ⟨fun hm => (List.mem_cons.mp hm).elim (fun q => h q.symm) h1, h2⟩
  | [], _ :: _, _, _, hl, _ => by cases hl
  | _ :: _, [], _, _, hl, _ => by cases hl
theorem after_put (is : List Nat) (F : Fr g L h m) (N : News g L h news) (nd : ad.Nodup) (ha : news.map (·.1) = ad) (hp : pick news is = own) (k : Keep (ads own) h h') (O' : Own g h' own') (he : ads own' = ads own) (hl : is.length = own'.length) :
    Fr g L h' m ∧ News g L h' (put news is own') := by
  subst ha
  have hin : ∀ p ∈ own, p ∈ news := fun p hp' => by
    subst hp
    obtain ⟨i, _, e⟩ := List.mem_filterMap.mp hp'
    exact List.mem_of_getElem? e
  have hS : ∀ b ∈ ads own, ∃ p ∈ news, p.1 = b := fun b hb => by
    obtain ⟨p, hp', rfl⟩ := List.mem_map.mp hb
    exact ⟨p, hin p hp', rfl⟩
  refine ⟨Fr.kept F k (fun b hb => ?_) fun hb => ?_, fun p hp' => ?_⟩
  · obtain ⟨p, hp', rfl⟩ := hS b hb; exact (N p hp').2.2
  · obtain ⟨p, hp', e⟩ := hS L hb; exact (N p hp').2.1 e
  · obtain ⟨j, hj⟩ := List.getElem?_of_mem hp'
    rcases put_mem hl hj with h1 | ⟨h1, h2⟩
    · refine ⟨(O' p h1).1, fun e => ?_, (O' p h1).2⟩
      obtain ⟨q, hq, e2⟩ := hS p.1 (he ▸ List.mem_map_of_mem h1)
      exact (N q hq).2.1 (e2.trans e)
    · have hm := List.mem_of_getElem? h2
      refine ⟨k _ _ (fun hb => ?_) (N p hm).1, (N p hm).2⟩
      obtain ⟨q, hq, e⟩ := List.mem_map.mp hb
      subst hp
      obtain ⟨i, hi, e2⟩ := List.mem_filterMap.mp hq
      have hij : i = j := by
        have a1 : (news.map (·.1))[i]? = some p.1 := by rw [List.getElem?_map, e2]; exact congrArg some e
        have a2 : (news.map (·.1))[j]? = some p.1 := by rw [List.getElem?_map, h2]; rfl
        obtain ⟨b1, c1⟩ := List.getElem?_eq_some_iff.mp a1
        obtain ⟨b2, c2⟩ := List.getElem?_eq_some_iff.mp a2
        have P := List.pairwise_iff_getElem.mp nd
        rcases Nat.lt_trichotomy i j with q | q | q
        · exact absurd (c1.trans c2.symm) (P i j b1 b2 q)
        · exact q
        · exact absurd (c2.trans c1.symm) (P j i b2 b1 q)
      exact h1 (hij ▸ hi)
/-- the ledger's tail turned by the call -/
theorem after_tail {pre G G' : List (Addr × Obj)} (F : Fr g L h m) (N : News g L h (pre ++ G)) (nd : ((pre ++ G).map (·.1)).Nodup) (k : Keep (ads G) h h') (O' : Own g h' G') (hnew : ∀ p ∈ G', p.1 ∈ ads G ∨ h.get? p.1 = none) (nd' : (ads G').Nodup) :
    Fr g L h' m ∧ News g L h' (pre ++ G') ∧ ((pre ++ G').map (·.1)).Nodup := by
  have NG : ∀ b ∈ ads G, ∃ p ∈ pre ++ G, p.1 = b := fun b hb => by
    obtain ⟨p, hp, rfl⟩ := List.mem_map.mp hb
    exact ⟨p, List.mem_append_right _ hp, rfl⟩
  rw [List.map_append, List.nodup_append] at nd
  have F' : Fr g L h' m := Fr.kept F k (fun b hb => by obtain ⟨p, hp, rfl⟩ := NG b hb; exact (N p hp).2.2) fun hb => by obtain ⟨p, hp, e⟩ := NG L hb; exact (N p hp).2.1 e
  refine ⟨F', fun p hp => ?_, ?_⟩
  · rcases List.mem_append.mp hp with hp | hp
    · have q := N p (List.mem_append_left _ hp)
      exact ⟨k _ _ (fun hb => nd.2.2 _ (List.mem_map_of_mem hp) _ hb rfl) q.1, q.2⟩
    · refine ⟨(O' p hp).1, fun e => ?_, (O' p hp).2⟩
      rcases hnew p hp with h1 | h1
      · obtain ⟨q, hq, e2⟩ := NG _ h1; exact (N q hq).2.1 (e2.trans e)
      · obtain ⟨oL, es, ep, e1, r⟩ := F.ns
        rw [e, e1] at h1; cases h1
  · rw [List.map_append, List.nodup_append]
    refine ⟨nd.1, nd', fun a ha b hb e => ?_⟩
    subst e
    obtain ⟨p, hp, rfl⟩ := List.mem_map.mp ha
    obtain ⟨q, hq, e2⟩ := List.mem_map.mp hb
    rcases hnew q hq with h1 | h1
    · exact nd.2.2 _ ha _ (e2 ▸ h1) rfl
    · rw [e2, (N p (List.mem_append_left _ hp)).1] at h1; cases h1
end

theorem gnone {g g₁ : Heap} {b : Addr} (k : Sub g g₁) (e : g₁.get? b = none) : g.get? b = none := by
  cases q : g.get? b with
  | none => rfl
  | some o => rw [k _ _ q] at e; cases e
theorem coderec_keep {h h' : Heap} {cd : Value} {q : Str} {S : List Addr} (x : h.CodeRec cd q) (k : Keep S h h') (hS : ∀ b ∈ S, ∃ o, h.get? b = some o ∧ ∀ vs, o.data ≠ .fields vs) : h'.CodeRec cd q := by
  obtain ⟨c, o, vs, t, e, e1, e2, e3⟩ := x
  refine ⟨c, o, vs, t, e, k _ _ (fun hb => ?_) e1, e2, e3⟩
  obtain ⟨o', h1, h2⟩ := hS c hb
  rw [e1] at h1; cases h1
  exact h2 vs e2
theorem coderec_sub {h h' : Heap} {cd : Value} {q : Str} (x : h.CodeRec cd q) (k : Sub h h') : h'.CodeRec cd q := x.keeps k
end
section
example : True := by w_top off; trivial
theorem cells_ads {cm : Str → Option Value} : ∀ {cs : List (Str × Addr)} {cells : List (Addr × Obj)}, CellsAre cm cs cells → cells.map (·.1) = cs.map (·.2)
  | _, _, .nil => rfl
  | _, _, .cons _ r => by rw [List.map_cons, List.map_cons, cells_ads r]

/-- a call of a def of the text's top whose frame keeps cells -/
theorem enterC {w : World} {A : Around} {k : Nat} {R : Result → Shared → Prop} {s : Shared} {g : Heap} {own : List (Addr × Obj)} {f : Addr} {name qual : Str} {params : Arguments} {body : List Stmt} {scope : Scope} {dV kV doc pm cdv ct oc : Value} {an od : Option Addr} {osl : Array (Option Value)} {args : Args} (binds : List (Str × Value)) (m cm : Str → Option Value)
    (B : Bs w g) (hg : Sub g s.heap) (hown : Own g s.heap own) (ndo : (ads own).Nodup)
    (ho : (heapK w.params).lookup f = some ⟨oc, od, .func (fnX name qual params body scope [] dV kV doc pm an cdv ct), osl⟩) (hcd : codeIn (heapK w.params) cdv qual = true) (hr : Rm A (k + 1))
    (hbind : BindsTo s (fnX name qual params body scope [] dV kV doc pm an cdv ct) args binds) (hkind : (binds.all fun y => scope.names.lookup y.1 == some .local || scope.names.lookup y.1 == some .cell) = true)
    (hnd : ((cellsFrom 0 scope.names []).map (·.1)).Nodup) (hm : ∀ L, bindL (envOfC qual scope L f cdv).kindOf binds (fun _ => none) = m) (hcm : ∀ L, bindC (envOfC qual scope L f cdv).kindOf binds (fun _ => none) = cm)
    (h : ∀ g₁ L h₁ tk cells, Sub g g₁ → Keep (ads own) s.heap g₁ → Sub g₁ s.heap → (∀ b, s.heap.get? b = none → g₁.get? b = none) → (∀ b, g₁.get? b = none → b ∉ ads own → s.heap.get? b = none) → s.heap.get? L = none → s.heap.objs.size = L → Bs w g₁ →
      Fr g₁ L h₁ m → News g₁ L h₁ (cells ++ own) → CellsAre cm (cellsFrom (L + 1) scope.names []) cells → ((cells ++ own).map (·.1)).Nodup → ∀ d fs gd u, Rm ⟨none, d, fs, gd, u⟩ k →
      wpAny (model P0 w) ⟨none, d, fs, gd, u⟩ (execs body (envOfC qual scope L f cdv))
        (fun fl s' => R (.ok (.ret (match fl with | .ret v => v | _ => .none))) s') (fun _ _ => False)
        { s with heap := h₁, toks := tk })
    (hco : scope.isCoroutine = false := by rfl) (hgen : scope.isGenerator = false := by rfl) (hk : scope.kind = .function := by rfl) : codeAny (model P0 w) A (.call (.ref f) args) R s := by
  obtain ⟨p, loose, mean, mg, mb, T⟩ := B.T
  have hS : ∀ b ∈ ads own, g.get? b = none := fun b hb => by
    obtain ⟨q, hq, rfl⟩ := List.mem_map.mp hb
    exact (hown q hq).2
  have hsub := sub_hide hg hS
  refine codeAny_call_function hr.room (hg _ _ (B.X _ _ ho)) rfl hco hgen rfl (codeRec_of (B.X.keeps hg) hcd) (hbind _ _ _ _ ?_)
  refine wpAny_newFunctionEnv_cells hk (kindsX hkind _) fun env' he s' x => ?_
  subst he
  refine ⟨(T.nolimit.keeps hg).keeps x.toInCall.keep, codeAny_func ?_⟩
  have hap := x.apart
  have hab := x.above
  obtain ⟨h₁, tk, rfl, _⟩ := x.done
  have hk₁ := x.toInCall.keep
  obtain ⟨cells, NC, Y⟩ := Cl.news (h₀ := s.heap) (Nat.le_refl _) fun n c hm => ⟨x.cell n c (lookup_of_mem_nodup (cellsFrom_names scope.names 0 (s.heap.objs.size + 1) [] [] rfl ▸ hnd) hm), x.above n c hm⟩
  refine wpAny_mono (around_none (P := fun A' => wpAny (model P0 w) A' (execs body (envOfC qual scope s.heap.objs.size f cdv)) _ _ _) (hr.deeper (envOfC qual scope s.heap.objs.size f cdv)) (h (hideAll s.heap (ads own)) s.heap.objs.size h₁ tk cells hsub (fun b o hb e => hideAll_get _ e hb) (fun b o e => of_hideAll _ e) (fun b hb => ?_) (fun b hb hn => ?_) (Heap.get?_none_of_le (Nat.le_refl _)) rfl (B.keeps hsub)
    ⟨hm _ ▸ x.toInCall.ns, fun b o e => hk₁ b o (of_hideAll _ e), Nat.le_of_eq (hideAll_size _ _)⟩ (fun p hp => ?_) (hcm s.heap.objs.size ▸ Y) ?_)) (fun _ _ q => q) (fun _ _ q => q.elim)
  · cases q : (hideAll s.heap (ads own)).get? b with
    | none => rfl
    | some o => rw [of_hideAll _ q] at hb; cases hb
  · cases q : s.heap.get? b with
    | none => rfl
    | some o => rw [hideAll_get _ q hn] at hb; cases hb
  · rcases List.mem_append.mp hp with hp | hp
    · refine ⟨(NC p hp).1, (NC p hp).2.1, ?_⟩
      cases q : (hideAll s.heap (ads own)).get? p.1 with
      | none => rfl
      | some o => have := of_hideAll _ q; rw [(NC p hp).2.2] at this; cases this
    · exact ⟨hk₁ _ _ (hown p hp).1, Nat.ne_of_lt (Heap.lt_size (hown p hp).1), hideAll_none _ (List.mem_map_of_mem hp)⟩
  · rw [List.map_append, cells_ads Y, List.nodup_append]
    refine ⟨?_, ndo, fun a ha b hb e => ?_⟩
    · exact List.pairwise_map.mpr hap
    · subst e
      obtain ⟨q, hq, rfl⟩ := List.mem_map.mp ha
      obtain ⟨q2, hq2, e2⟩ := List.mem_map.mp hb
      have l1 := hab _ _ hq
      have l2 := Heap.lt_size (hown q2 hq2).1
      rw [e2] at l2
      exact absurd (Nat.lt_trans l2 l1) (Nat.lt_irrefl _)
end
section
example : True := by w_top off; trivial
/-- the table of a def that makes one def: empty, or with the made def's code -/
inductive TabSt (P : Addr) (ln col : Nat) (q : Str) : List (Addr × Obj) → Prop
  | fresh : TabSt P ln col q [(P, tabObj #[])]
  | made {c' : Addr} {oc : Obj} {vs : Array Value} {t : Tok} : oc.data = .fields vs → vs[1]? = some (.str q t) → TabSt P ln col q [(P, tabObj #[rawInt ln, rawInt col, .ref c']), (c', oc)]

theorem mkDef {M : Model} {A : Around} {E : Value → Shared → Prop} {s : Shared} {g : Heap} {L a c P : Addr} {m mg mb : Str → Option Value} {cn : Str} {cs : Scope} {ccd : Value} {cl : List (Str × Addr)} {pre G : List (Addr × Obj)}
  {p : Program} {loose : List Str} {mean : ExcName → Option Value} {name qual : Str} {params : Arguments} {body : List Stmt} {scope : Scope} {pos : Pos} {firstLine : Nat} {clos : List (Str × Addr)} {Q : Value → Shared → Prop}
  (F : Fr g L s.heap m) (N : News g L s.heap (pre ++ G)) (nd : ((pre ++ G).map (·.1)).Nodup) (T : Top p loose mean mg mb g) (C : CodeHd g c P) (hcd : ccd = .ref c) (TG : TabSt P pos.line pos.col qual G)
  (hcl : closureFor scope (envX cn cs L a ccd cl) = pure clos)
  (h : ∀ f c' oc vs t ctv doc G' h' tk, Fr g L h' m → News g L h' ((f, fnMade name qual params body scope clos doc ((mg "__name__").getD .none) c' ctv) :: (pre ++ G')) → (f :: (pre ++ G').map (·.1)).Nodup → TabSt P pos.line pos.col qual G' → (c', oc) ∈ G' → oc.data = .fields vs → vs[1]? = some (.str qual t) → Q (.ref f) { s with heap := h', toks := tk }) :
  wpAny M A (makeFunction name qual params (.stmts body) scope (envX cn cs L a ccd cl) [] [] [] pos firstLine) Q E s := by
  cases TG with
  | fresh =>
    obtain ⟨n1, n2⟩ := nd_split nd
    refine nest_K (ps := #[]) F N T C hcd (updF_app n1 n2) True.intro rfl hcl ?_
    intro f c' oc vs t ctv doc h' tk F' N' d1 d2 l1 l2
    have e0 : (#[] ++ #[rawInt (pos.line : Int), rawInt (pos.col : Int), Value.ref c'] : Array Value) = #[rawInt (pos.line : Int), rawInt (pos.col : Int), Value.ref c'] := by simp
    rw [e0] at N'
    refine h f c' oc vs t ctv doc [(P, tabObj #[rawInt pos.line, rawInt pos.col, .ref c']), (c', oc)] h' tk F' (fun p hp => N' p ?_) ?_ (.made d1 d2) (.tail _ (.head _)) d1 d2
    · rcases List.mem_cons.mp hp with rfl | hp
      · exact .head _
      · rcases List.mem_append.mp hp with hp | hp
        · exact .tail _ (.tail _ (List.mem_append_left _ hp))
        · rcases List.mem_cons.mp hp with rfl | hp
          · exact .tail _ (.tail _ (List.mem_append_right _ (.head _)))
          · rcases List.mem_cons.mp hp with rfl | hp
            · exact .tail _ (.head _)
            · cases hp
    · have l1' : ∀ x ∈ (pre ++ [(P, tabObj #[])]).map (·.1), x < c' := fun x hx => by
        obtain ⟨q, hq, rfl⟩ := List.mem_map.mp hx
        exact l1 q hq
      rw [show (pre ++ [(P, tabObj #[rawInt (pos.line : Int), rawInt (pos.col : Int), Value.ref c']), (c', oc)]).map (·.1) = (pre ++ [(P, tabObj #[])]).map (·.1) ++ [c'] by simp]
      refine List.nodup_cons.mpr ⟨fun hm => ?_, List.nodup_append.mpr ⟨nd, by simp, fun x hx y hy e => ?_⟩⟩
      · rcases List.mem_append.mp hm with hm | hm
        · exact absurd (Nat.lt_trans (l1' f hm) l2) (Nat.lt_irrefl _)
        · rw [List.mem_singleton.mp hm] at l2; exact absurd l2 (Nat.lt_irrefl _)
      · rw [List.mem_singleton.mp hy] at e
        exact absurd (l1' x hx) (by rw [e]; exact Nat.lt_irrefl _)
  | @made c' oc vs t e1 e2 =>
    refine nestHit_K (c' := c') (ps := #[rawInt pos.line, rawInt pos.col, .ref c']) F N T C hcd (List.mem_append_right _ (.head _)) (by simp [TriplesOk, rawInt]) (by simp [codeAmong, rawInt]) hcl ?_
    intro f ctv doc h' tk F' N' l1
    refine h f c' oc vs t ctv doc _ h' tk F' N' (List.nodup_cons.mpr ⟨fun hm => ?_, nd⟩) (.made e1 e2) (.tail _ (.head _)) e1 e2
    obtain ⟨q, hq, e⟩ := List.mem_map.mp hm
    exact absurd (l1 q hq) (by rw [e]; exact Nat.lt_irrefl _)
end
section
example : True := by w_top off; trivial
/-! loops over an iterator that stands in the ledger -/
abbrev At (s : Shared) (h : Heap) (t : Nat) : Shared := ⟨h, s.gens, s.drawn, t, s.os⟩
theorem forW {w : World} {A : Around} {R : Result → Shared → Prop} {env : Env} {tg : Expr} {body : List Stmt} {s : Shared} {I : Addr} {n : Nat} {fp : List Addr} {P : Nat → Value → Prop} {St : Nat → Heap → Prop}
    (W : Walks P0 w A I fp [I] n P St) (J : Nat → Heap → Prop) (hJ : ∀ i h, J i h → St i h) (h0 : J 0 s.heap)
    (turn : ∀ i v h h' t, i < n → P i v → J i h → Keep [I] h h' → St (i + 1) h' →
      wpAny (model P0 w) A (assign tg env v) (fun _ s₂ => wpAny (model P0 w) A (execs body env) (fun f s₃ => match f with
        | .next | .cont => ∃ h'' t'', s₃ = At s h'' t'' ∧ J (i + 1) h''
        | .brk => R (.ok .next) s₃
        | .ret v => R (.ok (.ret v)) s₃) (fun _ _ => False) s₂) (fun _ _ => False) (At s h' t))
    (fin : ∀ h h' t, J n h → Keep [I] h h' → R (.ok .next) (At s h' t))
    (ht : ∀ v, letOwnedTupleGo tg (.ref I) v = pure () := by intro _; rfl) :
    codeAny (model P0 w) A (.forLoop tg (.ref I) body [] env) R s := by
  refine codeAny_forLoop (fun k s' => ∃ i h t, s' = At s h t ∧ J i h ∧ i ≤ n ∧ k = n + 1 - i) ?_ (n + 1) ⟨0, s.heap, s.toks, rfl, h0, Nat.zero_le _, rfl⟩ ht
  rintro k s' ⟨i, h, t, rfl, hj, hi, rfl⟩
  by_cases hlt : i < n
  · refine W.item i _ _ _ hlt (hJ _ _ hj) fun v h' tk hP hst hk => ?_
    have := turn i v h h' tk hlt hP hj (fun b o hb e => hk b o hb e) hst
    refine wpAny_mono this (fun _ s₂ h₂ => wpAny_mono h₂ (fun f s₃ h₃ => ?_) fun _ _ e => e.elim) fun _ _ e => e.elim
    cases f with
    | next => obtain ⟨h'', t'', rfl, hj'⟩ := h₃; exact ⟨_, (by omega), i + 1, h'', t'', rfl, hj', by omega, rfl⟩
    | cont => obtain ⟨h'', t'', rfl, hj'⟩ := h₃; exact ⟨_, (by omega), i + 1, h'', t'', rfl, hj', by omega, rfl⟩
    | brk => exact h₃
    | ret v => exact h₃
  · have e : i = n := by omega
    subst e
    refine W.done _ _ _ (hJ _ _ hj) fun h' tk hk => ?_
    exact wpAny_execs_nil (fin h h' tk hj fun b o hb e => hk b o hb e)

/-- the ledger behind the iterator's step -/
theorem iter_turn {g h h' : Heap} {L I : Addr} {m : Str → Option Value} {o o' : Obj} {news : List (Addr × Obj)} (F : Fr g L h m) (N : News g L h ((I, o) :: news)) (nd : (I :: news.map (·.1)).Nodup) (k : Keep [I] h h') (e : h'.get? I = some o') :
    Fr g L h' m ∧ News g L h' ((I, o') :: news) := by
  have hI := N _ (.head _)
  exact after_put [0] F N nd rfl rfl k (Own.cons e hI.2.2 Own.nil) rfl rfl
theorem iter_end {g h h' : Heap} {L I : Addr} {m : Str → Option Value} {o : Obj} {news : List (Addr × Obj)} (F : Fr g L h m) (N : News g L h ((I, o) :: news)) (nd : (I :: news.map (·.1)).Nodup) (k : Keep [I] h h') :
    Fr g L h' m ∧ News g L h' news := by
  have hI := N _ (.head _)
  refine ⟨Fr.kept F k (fun b hb => by rw [List.mem_singleton.mp hb]; exact hI.2.2) fun hb => hI.2.1 (List.mem_singleton.mp hb).symm, fun p hp => ?_⟩
  refine ⟨k _ _ (fun hb => ?_) (N p (.tail _ hp)).1, (N p (.tail _ hp)).2⟩
  exact (List.nodup_cons.mp nd).1 ((List.mem_singleton.mp hb) ▸ List.mem_map_of_mem hp)
section
variable {w : World} {A : Around} {E : Value → Shared → Prop} {s : Shared} {g : Heap} {L : Addr} {m : Str → Option Value} {news : List (Addr × Obj)} {Q : Value → Shared → Prop}
theorem iterRev {D I : Addr} {items : Array Value} {i : Int} (N : News g L s.heap ((I, revObj D i) :: news))
    (h : Q (.ref I) s) : wpAny (model P0 w) A (pyIter (.ref I)) Q E s := by
  exact wpAny_pyIter_revIter (l := D) (i := i) ⟨_, (N _ (.head _)).1, rfl, rfl⟩ h
theorem iterList {D : Addr} {items : Array Value} (F : Fr g L s.heap m) (N : News g L s.heap news) (hl : s.heap.IsList D items)
    (h : ∀ I h' o, Fr g L h' m → News g L h' ((I, o) :: news) → (∀ p ∈ news, p.1 < I) → h'.IsListIter I D 0 → h'.IsList D items → D ≠ I → Q (.ref I) (At s h' s.toks)) : wpAny (model P0 w) A (pyIter (.ref D)) Q E s := by
  refine wpAny_pyIter_list hl (h _ _ _ (F.push _) (News.push F N _) (fun p hp => Heap.lt_size (N p hp).1) ⟨_, Heap.get?_push_size _ rfl, rfl, rfl⟩ ?_ ?_)
  · obtain ⟨o, ho, r⟩ := hl
    exact ⟨o, Heap.get?_push_of_some _ ho, r⟩
  · obtain ⟨o, ho, r⟩ := hl
    exact Nat.ne_of_lt (Heap.lt_size ho)
theorem iterStr {x : Str} {t : Tok} (F : Fr g L s.heap m) (N : News g L s.heap news) (ha : x.cps.all (· < 128) = true)
    (h : ∀ I h' o, Fr g L h' m → News g L h' ((I, o) :: news) → (∀ p ∈ news, p.1 < I) → h'.IsStrIter I "str_ascii_iterator" x t 0 → Q (.ref I) (At s h' s.toks)) : wpAny (model P0 w) A (pyIter (.str x t)) Q E s :=
  wpAny_pyIter_ascii ha (h _ _ _ (F.push _) (News.push F N _) (fun p hp => Heap.lt_size (N p hp).1) ⟨_, Heap.get?_push_size _ rfl, rfl, rfl⟩)
end

theorem news_perm {g h : Heap} {L : Addr} {x y : List (Addr × Obj)} (N : News g L h x) (p : x.Perm y) : News g L h y := fun q hq => N q (p.mem_iff.mpr hq)
theorem ads_perm {x y : List (Addr × Obj)} (nd : (x.map (·.1)).Nodup) (p : x.Perm y) : (y.map (·.1)).Nodup := (p.map _).nodup_iff.mp nd
/-- what a call leaves: G became G', new objects stand ahead of it, all else stayed -/
structure Done (g h h' : Heap) (G new G' : List (Addr × Obj)) : Prop where
  keep : Keep (ads G) h h'
  own : Own g h' (new ++ G')
  fresh : ∀ p ∈ new ++ G', p.1 ∈ ads G ∨ h.get? p.1 = none
  nd : (ads (new ++ G')).Nodup
theorem Done.after {g h h' : Heap} {L : Addr} {m : Str → Option Value} {pre G new G' : List (Addr × Obj)} (d : Done g h h' G new G') (F : Fr g L h m) (N : News g L h (pre ++ G)) (nd : ((pre ++ G).map (·.1)).Nodup) :
    Fr g L h' m ∧ News g L h' (new ++ (pre ++ G')) ∧ ((new ++ (pre ++ G')).map (·.1)).Nodup := by
  obtain ⟨F', N', nd'⟩ := after_tail F N nd d.keep d.own d.fresh d.nd
  have p : (pre ++ (new ++ G')).Perm (new ++ (pre ++ G')) := by
    rw [← List.append_assoc, ← List.append_assoc]
    exact List.perm_append_comm.append_right _
  exact ⟨F', news_perm N' p, ads_perm nd' p⟩
theorem done_of {g g₁ h h' : Heap} {L : Addr} {m : Str → Option Value} {G new G' nw : List (Addr × Obj)} (gg : Sub g g₁) (kp : Keep (ads G) h g₁) (fr2 : ∀ b, g₁.get? b = none → b ∉ ads G → h.get? b = none)
    (F : Fr g₁ L h' m) (N : News g₁ L h' nw) (hs : ∀ p ∈ new ++ G', p ∈ nw) (nd : (ads (new ++ G')).Nodup) : Done g h h' G new G' := by
  have own' := own_of_news N hs
  refine ⟨fun b o hb ho => F.keep _ _ (kp b o hb ho), fun p hp => ⟨(own' p hp).1, gnone gg (own' p hp).2⟩, fun p hp => ?_, nd⟩
  by_cases q : p.1 ∈ ads G
  · exact .inl q
  · exact .inr (fr2 _ (own' p hp).2 q)
theorem Fr.cg {g h : Heap} {L : Addr} {m m' : Str → Option Value} (F : Fr g L h m) (e : ∀ y, m y = m' y) : Fr g L h m' := (funext e : m = m') ▸ F
theorem lookup_ite {y k : Str} {v : Value} {l : List (Str × Value)} : List.lookup y ((k, v) :: l) = if y = k then some v else List.lookup y l := by
  rw [List.lookup_cons]
  by_cases h : y = k
  · subst h; simp
  · rw [if_neg h, show (y == k) = false from beq_eq_false_iff_ne.mpr h]
/-- two name tables are alike but for the names that are looked at already -/
def EqOff (ks : List Str) (m m' : Str → Option Value) : Prop := ∀ y, y ∉ ks → m y = m' y
section
variable {ks : List Str} {m m' : Str → Option Value} {k : Str} {v : Value} {x : Option Value} {l : List (Str × Value)}
theorem eqoff_start (h : EqOff [] m m') : ∀ y, m y = m' y := fun y => h y List.not_mem_nil
theorem eqoff_new (h0 : m' k = x) (h : EqOff (k :: ks) m m') : EqOff ks (fun y => if y = k then x else m y) m' := fun y hy => by
  by_cases e : y = k
  · subst e; rw [h0]; exact if_pos rfl
  · exact (if_neg e).trans (h y fun hm => (List.mem_cons.mp hm).elim e hy)
theorem eqoff_old (h0 : ks.contains k = true) (h : EqOff ks m m') : EqOff ks (fun y => if y = k then x else m y) m' := fun y hy =>
  (if_neg fun e : y = k => hy (e ▸ List.contains_iff_mem.mp h0)).trans (h y hy)
theorem eqoff_lkn (h0 : m' k = some v) (h : EqOff (k :: ks) (fun y => List.lookup y l) m') : EqOff ks (fun y => List.lookup y ((k, v) :: l)) m' := by
  have e : (fun y => List.lookup y ((k, v) :: l)) = fun y => if y = k then some v else List.lookup y l := funext fun y => lookup_ite
  rw [e]
  exact eqoff_new h0 h
theorem eqoff_lko (h0 : ks.contains k = true) (h : EqOff ks (fun y => List.lookup y l) m') : EqOff ks (fun y => List.lookup y ((k, v) :: l)) m' := by
  have e : (fun y => List.lookup y ((k, v) :: l)) = fun y => if y = k then some v else List.lookup y l := funext fun y => lookup_ite
  rw [e]
  exact eqoff_old h0 h
theorem eqoff_lk0 (h : EqOff ks (fun _ => none) m') : EqOff ks (fun y => List.lookup y ([] : List (Str × Value))) m' := h
theorem eqoff_r (h0 : ks.contains k = true) (h : EqOff ks (fun _ => none) m') : EqOff ks (fun _ => none) (fun y => if y = k then x else m' y) := fun y hy =>
  (h y hy).trans (if_neg fun e : y = k => hy (e ▸ List.contains_iff_mem.mp h0)).symm
theorem eqoff_rn (h : EqOff ks (fun _ => none) m') : EqOff ks (fun _ => none) (fun y => if y = k then none else m' y) := fun y hy => by
  by_cases e : y = k
  · exact (if_pos e).symm
  · exact (h y hy).trans (if_neg e).symm
theorem eqoff_nil : EqOff ks (fun _ => none) (fun _ => none) := fun _ _ => rfl
theorem eqoff_lkr (h : EqOff ks (fun _ => none) (fun y => if y = k then some v else List.lookup y l)) : EqOff ks (fun _ => none) (fun y => List.lookup y ((k, v) :: l)) := by
  have e : (fun y => List.lookup y ((k, v) :: l)) = fun y => if y = k then some v else List.lookup y l := funext fun y => lookup_ite
  rwa [e]
end
end
section
example : True := by w_top off; trivial
section
variable {w : World} {A : Around} {E : Value → Shared → Prop} {s : Shared} {g : Heap} {L : Addr} {m : Str → Option Value} {news news' : List (Addr × Obj)}
theorem reverse_K {D : Addr} {its : Array Value} {n : Nat} {Q : Value → Shared → Prop} (Fm : Fr g L s.heap m) (N : News g L s.heap news) (U : Upd D (listOf its n) (listOf its.reverse n) news news')
    (h : ∀ h', Fr g L h' m → News g L h' news' → Q .none { s with heap := h' }) (hsz : its.size ≤ sizeLine := by size_fits) : wpAny (model P0 w) A (call (.builtin "list.reverse") [.ref D]) Q E s := by
  obtain ⟨pre, post, rfl, rfl, a, b⟩ := U.split
  have z := N (D, listOf its n) (List.mem_append.mpr (.inr (.head _)))
  have hl : IsL s.heap D its n := z.1
  refine call_meets F.slot_list_reverse ⟨_, hl, rfl⟩ F.entry_list_reverse (F.args_list_reverse_1 _) (AutoSeq1.list_reverse_list_0 D its n hsz) ⟨hl, ?_⟩
  have ho' := hl.update (fun x => x.reverse)
  rw [if_pos (by simp)] at ho'
  have hs : Heap.SameBut D s.heap (s.heap.update D (Obj.mapSeq fun x => x.reverse)) := Heap.SameBut.update ..
  exact h _ (Fm.change hs z.2.1 z.2.2) (news_set N a b hs ho')
end
/-- done, where X was read alone -/
theorem done_of2 {g g₁ h h' : Heap} {L : Addr} {m : Str → Option Value} {X G new G' nw : List (Addr × Obj)} (gg : Sub g g₁) (kp : Keep (ads (X ++ G)) h g₁) (fr2 : ∀ b, g₁.get? b = none → b ∉ ads (X ++ G) → h.get? b = none) (OX : Own g h X)
    (F : Fr g₁ L h' m) (N : News g₁ L h' nw) (hs : ∀ p ∈ new ++ G', p ∈ nw) (hx : ∀ p ∈ X, p ∈ nw) (nd : (ads (X ++ (new ++ G'))).Nodup) : Done g h h' G new G' := by
  have own' := own_of_news N hs
  have ownX := own_of_news N hx
  rw [ads, List.map_append, List.nodup_append] at nd
  refine ⟨fun b o hb ho => ?_, fun p hp => ⟨(own' p hp).1, gnone gg (own' p hp).2⟩, fun p hp => ?_, nd.2.1⟩
  · by_cases q : b ∈ ads X
    · obtain ⟨p, hp, rfl⟩ := List.mem_map.mp q
      rw [(OX p hp).1] at ho; cases ho
      exact (ownX p hp).1
    · exact F.keep _ _ (kp b o (fun hm => by
        rw [ads, List.map_append] at hm
        exact (List.mem_append.mp hm).elim q hb) ho)
  · by_cases q : p.1 ∈ ads G
    · exact .inl q
    · refine .inr (fr2 _ (own' p hp).2 fun hm => ?_)
      rw [ads, List.map_append] at hm
      exact (List.mem_append.mp hm).elim (fun hx' => nd.2.2 _ hx' _ (List.mem_map_of_mem hp) rfl) q
theorem whileW {w : World} {A : Around} {R : Result → Shared → Prop} {env : Env} {test : Expr} {body : List Stmt} {s : Shared} (J : Nat → Heap → Prop)
    (turn : ∀ n h t, J n h → wpAny (model P0 w) A (isTrue test env (eval test env)) (fun b s₂ =>
      if b then wpAny (model P0 w) A (execs body env) (fun f s₃ => match f with
        | .next | .cont => ∃ h'' t'' n', s₃ = At s h'' t'' ∧ n' < n ∧ J n' h''
        | .brk => R (.ok .next) s₃
        | .ret v => R (.ok (.ret v)) s₃) (fun _ _ => False) s₂
      else R (.ok .next) s₂) (fun _ _ => False) (At s h t))
    (n : Nat) (h0 : J n s.heap) : codeAny (model P0 w) A (.whileLoop test body [] env) R s := by
  refine codeAny_whileLoop (fun k s' => ∃ h t, s' = At s h t ∧ J k h) ?_ n ⟨s.heap, s.toks, rfl, h0⟩
  rintro k s' ⟨h, t, rfl, hj⟩
  refine wpAny_mono (turn k h t hj) (fun b s₂ h₂ => ?_) fun _ _ e => e.elim
  cases b with
  | true =>
    rw [if_pos rfl] at h₂ ⊢
    refine wpAny_mono h₂ (fun f s₃ h₃ => ?_) fun _ _ e => e.elim
    cases f with
    | next => obtain ⟨h'', t'', n', rfl, hn, hj'⟩ := h₃; exact ⟨n', hn, h'', t'', rfl, hj'⟩
    | cont => obtain ⟨h'', t'', n', rfl, hn, hj'⟩ := h₃; exact ⟨n', hn, h'', t'', rfl, hj'⟩
    | brk => exact h₃
    | ret v => exact h₃
  | false =>
    rw [if_neg (by decide)] at h₂ ⊢
    exact wpAny_execs_nil h₂
/-- a call that only read: all stayed -/
theorem sub_of {g g₁ h h' : Heap} {L : Addr} {m : Str → Option Value} {own : List (Addr × Obj)} (gg : Sub g g₁) (kp : Keep (ads own) h g₁) (O : Own g h own) (F : Fr g₁ L h' m) (N : News g₁ L h' own) : Sub h h' := fun b o ho => by
  by_cases q : b ∈ ads own
  · obtain ⟨p, hp, rfl⟩ := List.mem_map.mp q
    rw [(O p hp).1] at ho; cases ho
    exact (N p hp).1
  · exact F.keep _ _ (kp b o q ho)
end
section
example : True := by w_top off; trivial
/-! an attribute of a function object -/
open Builtin Builtin.ObjectAttr
theorem slot_function_setattr : Slot "function" "__setattr__" "object.__setattr__" :=
  .of (owner := "object") (n := "__setattr__") (by rw [typeLookup_type, builtinLookup_eq_fast]; kernel_rfl) (by decide +kernel) (by decide +kernel) (by decide +kernel)
    (by first | exact .inl (by decide +kernel) | exact .inr (by decide +kernel)) (by rw [isSubtype_type]; kernel_rfl)
theorem mro_function : mroOf (.type "function") = pure [.type "function", .type "object"] := by rw [mroOf_type]; kernel_rfl
theorem own_function_setattr : classOwn (.type "function") "__setattr__" = pure none := by
  show (pure (builtinOwn "function" "__setattr__") : Sem (Option Value)) = _
  rw [builtinOwn_eq_fast]
  kernel_rfl
theorem passes_function (self : Value) : refuseLoop self "__setattr__" [.type "function", .type "object"] = pure () := by
  unfold refuseLoop
  simp only [List.forIn_cons]
  rw [own_function_setattr]
  have := PySem.F.store_object.passes self
  unfold refuseLoop at this
  simp only [List.forIn_cons] at this
  exact this
theorem lookup_function_read : typeLookup (.type "function") "read" = pure none := by rw [typeLookup_type, builtinLookup_eq_fast]; kernel_rfl
def NsO (o : Obj) (m : Str → Option Value) : Prop := ∃ es ep, o.data = .dict es ep ∧ StrKeys es ∧ ∀ name, nsFind es name = m name
theorem NsO.ns {o : Obj} {m : Str → Option Value} (x : NsO o m) {h : Heap} {a : Addr} (e : h.get? a = some o) : h.Ns a m := let ⟨es, ep, d, r⟩ := x; ⟨o, es, ep, e, d, r⟩
section
variable {w : World} {A : Around} {E : Value → Shared → Prop} {s : Shared}
theorem fn_set_raw {f : Addr} {fo : Obj} {fd : FuncData} {v : Value} {Q : Unit → Shared → Prop} (hf : s.heap.get? f = some fo) (hc : fo.cls = .type "function") (hdn : fo.dict = none) (hdd : fo.data = .func fd)
    (h : ∀ h' tk d od, s.heap.get? d = none → h'.get? d = some od → NsO od (fun y => if y = "read" then some v else none) → h'.get? f = some { fo with dict := some d } → Keep [f] s.heap h' → Q () { s with heap := h', toks := tk }) :
    wpAny (model P0 w) A (setAttr (.ref f) "read" v) Q E s := by
  have hT : ∀ t, ({ s with toks := t } : Shared).TypeIs (.ref f) "function" := fun t => ⟨fo, hf, hc⟩
  unfold setAttr
  refine wpAny_bind (wpAny_mkText (wpAny_bind (wpAny_callSpecial?_slot (hT _) slot_function_setattr (wpAny_call_entry slot_function_setattr (hT _) PySem.F.entry_object_setattr ?_ (PySem.F.args_object_setattr_3 _ _ _)))))
  rw [osa_eq, refuse_eq]
  have LT : ∀ {α} {k : Value → Sem α} {Q' : α → Shared → Prop} {E' : Value → Shared → Prop} {A' : Around} {s' : Shared}, s'.heap = s.heap → wpAny (model P0 w) A' (k (.type "function")) Q' E' s' → wpAny (model P0 w) A' (typeOf (.ref f) >>= k) Q' E' s' := fun e q =>
    wpAny_bind (wpAny_typeOf ⟨fo, by rw [e]; exact hf, hc⟩ q)
  refine wpAny_bind (LT rfl ?_)
  rw [mro_function]
  refine wpAny_bind (wpAny_pure ?_)
  rw [passes_function]
  refine wpAny_pure (LT rfl ?_)
  rw [lookup_function_read]
  refine wpAny_bind (wpAny_pure ?_)
  refine wpAny_bind (wpAny_pure (a := none) ?_)
  dsimp only
  unfold storeInOwnDict ownDictForStores
  refine wpAny_bind (wpAny_of_eq (a := ()) (by first | rfl | kernel_rfl) ?_)
  dsimp only
  rw [if_neg (show ¬ ((Value.type "function" == Value.type "module") = true) by decide)]
  unfold instanceDict
  refine wpAny_bind (wpAny_bind (wpAny_loadPart hf ?_))
  obtain ⟨fc, fdict, fdata, fslots⟩ := fo
  dsimp only at hc hdn hdd
  subst hc hdn hdd
  dsimp only
  rw [if_neg (show ¬ ((!true || !typeHasDict (Value.type "function")) = true) by decide +kernel)]
  refine wpAny_bind (wpAny_alloc ?_)
  have hx₁ := Heap.get?_push_of_some ({ cls := .type "dict", data := .dict #[] } : Obj) hf
  have hxs : f ≠ s.heap.objs.size := Nat.ne_of_lt (Heap.lt_size hf)
  refine wpAny_bind (wpAny_update hx₁ ?_)
  refine wpAny_of_eq (a := some s.heap.objs.size) (by first | rfl | kernel_rfl) ?_
  have hgd : ((s.heap.push { cls := .type "dict", data := .dict #[] }).update f fun o => { cls := o.cls, dict := some s.heap.objs.size, data := o.data, slots := o.slots }).get? s.heap.objs.size = some { cls := .type "dict", data := .dict #[] } :=
    (Heap.get?_update_ne _ _ _ _ hxs.symm).trans (Heap.get?_push_at rfl rfl)
  have hgf := Heap.get?_update_self (fun o : Obj => { o with dict := some s.heap.objs.size }) hx₁ rfl
  dsimp only
  unfold storeInDict newKeyGuard
  refine wpAny_bind (wpAny_pure (wpAny_bind (wpAny_nsSet1 (Heap.Ns1.of_empty ⟨_, #[], _, hgd, rfl, fun e he => absurd he (by simp), fun _ => rfl⟩) fun h' hn' hs => ?_)))
  obtain ⟨oD, esD, epD, hoD, hdD, hcD⟩ := hn'.count (Within.cons "read" v Within.nil)
  refine wpAny_bind (wpAny_lookBehind hoD (by rw [hdD]; exact pastItsLine_dict (Nat.le_trans hcD (by rw [List.length_cons, List.length_nil, sizeLine_eq]; omega))) ?_)
  refine wpAny_pure ⟨_, rfl, wpAny_pure ?_⟩
  obtain ⟨oD2, es, ep, e1, e2, e3, e4⟩ := hn'.ns
  refine h _ _ _ oD2 (Heap.get?_none_of_le (Nat.le_refl _)) e1 ⟨es, ep, e2, e3, e4⟩ ((hs.2 f hxs).trans hgf) fun b o hb ho => ?_
  have hbf : b ≠ f := fun e => hb (e ▸ List.mem_singleton_self _)
  exact (hs.2 b (Nat.ne_of_lt (Heap.lt_size ho))).trans ((Heap.get?_update_ne _ _ _ _ hbf).trans (Heap.get?_push_of_some _ ho))
end
theorem slot_function_ga : Slot "function" "__getattribute__" "object.__getattribute__" :=
  .of (owner := "object") (n := "__getattribute__") (by rw [typeLookup_type, builtinLookup_eq_fast]; kernel_rfl) (by decide +kernel) (by decide +kernel) (by decide +kernel)
    (by first | exact .inl (by decide +kernel) | exact .inr (by decide +kernel)) (by rw [isSubtype_type]; kernel_rfl)
theorem lookup_function_getattr : typeLookup (.type "function") "__getattr__" = pure none := by rw [typeLookup_type, builtinLookup_eq_fast]; kernel_rfl
theorem canon_oga : (Manifest.canonical "object.__getattribute__" != "object.__getattribute__") = false := by decide +kernel
section
variable {w : World} {A : Around} {E : Value → Shared → Prop} {s : Shared}
theorem fn_get_raw {f d : Addr} {fo : Obj} {fd : FuncData} {v : Addr} {m : Str → Option Value} {pl : Sem Bool} {Q : Value × List Value → Shared → Prop} (hf : s.heap.get? f = some fo) (hc : fo.cls = .type "function") (hdn : fo.dict = some d) (hdd : fo.data = .func fd)
    (hn : s.heap.Ns d m) (hm : m "read" = some (.ref v)) (h : Q (.ref v, []) { s with toks := s.toks + 1 }) :
    wpAny (model P0 w) A (getMethod (.ref f) "read" pl) Q E s := by
  have hT : ∀ t, ({ s with toks := t } : Shared).TypeIs (.ref f) "function" := fun t => ⟨fo, hf, hc⟩
  unfold getMethod
  refine wpAny_bind (wpAny_specialOf (hT _) slot_function_ga.lookup ?_)
  show wpAny _ _ (if (Manifest.canonical "object.__getattribute__" != "object.__getattribute__") = true then _ else _) _ _ _
  rw [if_neg (by rw [canon_oga]; decide)]
  refine wpAny_bind (wpAny_specialOf (hT _) lookup_function_getattr ?_)
  dsimp only
  rw [if_neg (by decide)]
  refine wpAny_bind (wpAny_specialOf (hT _) lookup_function_read ?_)
  dsimp only
  unfold getAttr getAttrBy
  refine wpAny_bind (wpAny_bind (wpAny_mkText (wpAny_holding (wpAny_bind (wpAny_typeOf (hT _) (wpAny_bind (wpAny_of_eq slot_function_ga.lookup ?_)))))))
  show wpAny _ _ (getAttrByItsOwn (.ref f) (.str "read" s.toks) (.type "function") (.builtin "object.__getattribute__") true false) _ _ _
  unfold getAttrByItsOwn hookBefore callGetattribute boundAndCalled
  refine wpAny_bind (wpAny_of_eq (show (if onTheHeap (.type "function") then typeLookup (.type "function") "__getattr__" else pure none) = pure none from rfl) ?_)
  refine wpAny_bind (wpAny_attempt (wpAny_holding ?_))
  show wpAny _ _ (bindSpecial (.builtin "object.__getattribute__") (.ref f) >>= _) _ _ _
  refine wpAny_bind (wpAny_of_eq (slot_function_ga.bind _) ?_)
  refine wpAny_mono (Q := fun x s' => x = .ref v ∧ s' = { s with toks := s.toks + 1 }) (E := fun _ _ => False)
    (wpAny_call_entry slot_function_ga (hT _) PySem.F.entry_object_getattribute ?_ (PySem.F.args_object_getattribute_2 _ _)) (fun x s' hv => ?_) fun _ _ z => z.elim
  · unfold Builtin.«object.__getattribute__»
    refine wpAny_bind (wpAny_pure ?_)
    dsimp only
    refine wpAny_bind (wpAny_pure ?_)
    refine wpAny_bind (wpAny_typeOf (hT _) ?_)
    unfold find
    rw [lookup_function_read]
    refine wpAny_bind (wpAny_bind (wpAny_pure (wpAny_bind (wpAny_pure (wpAny_bind (wpAny_pure ?_))))))
    dsimp only
    unfold ownThenClass inOwnDict ObjectAttr.ownDict loadHead instanceDict
    refine wpAny_bind (wpAny_bind (wpAny_bind (wpAny_loadPart hf ?_)))
    rw [hdd]
    dsimp only
    refine wpAny_bind (wpAny_loadPart hf ?_)
    rw [hc, hdn]
    refine wpAny_pure ?_
    refine wpAny_nsGet hn ?_
    rw [hm]
    refine wpAny_bind (wpAny_rule (wpAny_pure ?_))
    exact wpAny_pure ⟨_, rfl, rfl, rfl⟩
  · obtain ⟨rfl, rfl⟩ := hv
    exact wpAny_pure (wpAny_pure h)
end
section
variable {w : World} {A : Around} {E : Value → Shared → Prop} {s : Shared} {g : Heap} {L : Addr} {mm : Str → Option Value} {news : List (Addr × Obj)}
theorem fn_set_K {f : Addr} {fo : Obj} {fd : FuncData} {v : Value} {Q : Unit → Shared → Prop} {gn : Obj → List (Addr × Obj)} (Fm : Fr g L s.heap mm) (N : News g L s.heap news) (U : UpdF f fo news gn) (hc : fo.cls = .type "function") (hdn : fo.dict = none) (hdd : fo.data = .func fd)
    (h : ∀ h' tk d od, Fr g L h' mm → News g L h' ((d, od) :: gn { fo with dict := some d }) → NsO od (fun y => if y = "read" then some v else none) → s.heap.get? d = none → Q () { s with heap := h', toks := tk }) :
    wpAny (model P0 w) A (setAttr (.ref f) "read" v) Q E s := by
  obtain ⟨pre, post, rfl, hg, a, b⟩ := U.split
  have z := N (f, fo) (List.mem_append.mpr (.inr (.head _)))
  refine fn_set_raw z.1 hc hdn hdd fun h' tk d od hd hod hns hf k => ?_
  have hS : ∀ b ∈ [f], g.get? b = none := fun b hb => by rw [List.mem_singleton.mp hb]; exact z.2.2
  have F' : Fr g L h' mm := Fr.kept Fm k hS fun hb => z.2.1 (List.mem_singleton.mp hb).symm
  have N' : News g L h' (pre ++ (f, { fo with dict := some d }) :: post) := fun p hp => by
    rcases List.mem_append.mp hp with hp | hp
    · have q := N p (List.mem_append_left _ hp)
      exact ⟨k _ _ (fun hb => a p hp (List.mem_singleton.mp hb)) q.1, q.2⟩
    · rcases List.mem_cons.mp hp with rfl | hp
      · exact ⟨hf, z.2⟩
      · have q := N p (List.mem_append_right _ (.tail _ hp))
        exact ⟨k _ _ (fun hb => b p hp (List.mem_singleton.mp hb)) q.1, q.2⟩
  refine h h' tk d od F' (News.add Fm (hg _ ▸ N') hd hod) hns hd
theorem fn_get_K {f d : Addr} {fo od : Obj} {fd : FuncData} {v : Addr} {m : Str → Option Value} {pl : Sem Bool} {Q : Value × List Value → Shared → Prop} (N : News g L s.heap news) (hf : (f, fo) ∈ news) (hd : (d, od) ∈ news) (hns : NsO od m) (hm : m "read" = some (.ref v)) (hc : fo.cls = .type "function") (hdn : fo.dict = some d) (hdd : fo.data = .func fd)
    (h : Q (.ref v, []) { s with toks := s.toks + 1 }) : wpAny (model P0 w) A (getMethod (.ref f) "read" pl) Q E s :=
  fn_get_raw (N _ hf).1 hc hdn hdd (hns.ns (N _ hd).1) hm h
end
end
section
example : True := by w_top off; trivial
/-- a call of a lambda whose frame keeps no cells -/
theorem enterL {w : World} {A : Around} {k : Nat} {R : Result → Shared → Prop} {s : Shared} {g : Heap} {own : List (Addr × Obj)} {f : Addr} {name qual : Str} {params : Arguments} {body : Expr} {scope : Scope} {cl : List (Str × Addr)} {pm ct : Value} {c' : Addr} {args : Args} {binds : List (Str × Value)}
    (B : Bs w g) (hg : Sub g s.heap) (hown : Own g s.heap own)
    (ho : s.heap.get? f = some (kla_obj name qual params body scope cl pm c' ct)) (hcd : s.heap.CodeRec (.ref c') qual) (hr : Rm A (k + 1))
    (hbind : bindArgs (kla_fn name qual params body scope cl pm (.ref c') ct) args = pure binds) (hloc : ∀ y ∈ binds, scope.names.lookup y.1 = some .local)
    (h : ∀ g₁ L h₁ tk, Sub g g₁ → Keep (ads own) s.heap g₁ → Sub g₁ s.heap → (∀ b, s.heap.get? b = none → g₁.get? b = none) → (∀ b, g₁.get? b = none → b ∉ ads own → s.heap.get? b = none) → s.heap.get? L = none → (∀ p ∈ own, p.1 < L) → Bs w g₁ → Fr g₁ L h₁ (fun y => binds.reverse.lookup y) → News g₁ L h₁ own → ∀ d fs gd u, Rm ⟨none, d, fs, gd, u⟩ k →
      wpAny (model P0 w) ⟨none, d, fs, gd, u⟩ (eval body (envX qual scope L f (.ref c') cl))
        (fun v s' => R (.ok (.ret v)) s') (fun _ _ => False)
        { s with heap := h₁, toks := tk })
    (hco : scope.isCoroutine = false := by rfl) (hgen : scope.isGenerator = false := by rfl) (hk : scope.kind = .function := by rfl)
    (hcell : ∀ x ∈ scope.names, x.2 ≠ .cell := by decide) : codeAny (model P0 w) A (.call (.ref f) args) R s := by
  obtain ⟨p, loose, mean, mg, mb, T⟩ := B.T
  have hS : ∀ b ∈ ads own, g.get? b = none := fun b hb => by
    obtain ⟨q, hq, rfl⟩ := List.mem_map.mp hb
    exact (hown q hq).2
  have hsub := sub_hide hg hS
  refine kla_callFunE hr.room ho rfl hco hgen rfl hcd ?_
  rw [hbind]
  refine wpAny_pure (wpAny_newFunctionEnv hcell hloc (fun h₁ hns hsb => ⟨((T.nolimit).keeps hg).fresh _ hsb, ?_⟩) hk)
  show codeAny _ _ (.expr body (envX qual scope s.heap.objs.size f (.ref c') cl)) _ _
  have hk₁ : ∀ b o, s.heap.get? b = some o → h₁.get? b = some o := fun b o e => hsb.extBut b o (Nat.ne_of_lt (Heap.lt_size e)) (Heap.get?_push_of_some _ e)
  refine kla_codeExpr (wpAny_mono (around_none (P := fun A' => wpAny (model P0 w) A' (eval body (envX qual scope s.heap.objs.size f (.ref c') cl)) _ _ _) (hr.deeper (envX qual scope s.heap.objs.size f (.ref c') cl)) (h (hideAll s.heap (ads own)) s.heap.objs.size h₁ _ hsub (fun b o hb e => hideAll_get _ e hb) (fun b o e => of_hideAll _ e) (fun b hb => ?_) (fun b hb hn => ?_) ?_ (fun q hq => Heap.lt_size (hown q hq).1) (B.keeps hsub) ⟨hns, fun b o e => hk₁ b o (of_hideAll _ e), Nat.le_of_eq (hideAll_size _ _)⟩
    (fun q hq => ⟨hk₁ _ _ (hown q hq).1, Nat.ne_of_lt (Heap.lt_size (hown q hq).1), hideAll_none _ (List.mem_map_of_mem hq)⟩))) (fun _ _ q => q) (fun _ _ q => q.elim))
  · cases q : (hideAll s.heap (ads own)).get? b with
    | none => rfl
    | some o => rw [of_hideAll _ q] at hb; cases hb
  · cases q : s.heap.get? b with
    | none => rfl
    | some o => rw [hideAll_get _ q hn] at hb; cases hb
  · exact Heap.get?_none_of_le (Nat.le_refl _)
section
variable {w : World} {A : Around} {E : Value → Shared → Prop} {s : Shared} {g : Heap} {L : Addr} {m : Str → Option Value} {news news' : List (Addr × Obj)}
theorem pop_K {D : Addr} {us : List Value} {y : Value} {n : Nat} {Q : Value → Shared → Prop} (Fm : Fr g L s.heap m) (N : News g L s.heap news) (U : Upd D (listOf (us ++ [y]).toArray n) (listOf us.toArray (n + 1)) news news')
    (h : ∀ h', Fr g L h' m → News g L h' news' → Q y { s with heap := h' }) (hsz : us.length < 1000) : wpAny (model P0 w) A (call (.builtin "list.pop") [.ref D]) Q E s := by
  obtain ⟨pre, post, rfl, rfl, a, b⟩ := U.split
  have z := N (D, listOf (us ++ [y]).toArray n) (List.mem_append.mpr (.inr (.head _)))
  have hl : IsL s.heap D (us ++ [y]).toArray n := z.1
  have hs1 : (us ++ [y]).toArray.size = us.length + 1 := by simp
  refine call_meets F.slot_list_pop ⟨_, hl, rfl⟩ F.entry_list_pop (F.args_list_pop_1 _) (PySem.MeetsSeq.list_pop_last D (us ++ [y]).toArray n y (by simp) (by rw [hs1]; exact Nat.le_trans (show us.length + 1 ≤ 1000 by omega) (by decide))) ⟨hl, ?_⟩
  have ho' := hl.update (fun xs => xs.eraseIdxIfInBounds ((us ++ [y]).toArray.size - 1))
  have e1 : (us ++ [y]).toArray.eraseIdxIfInBounds ((us ++ [y]).toArray.size - 1) = us.toArray := by
    rw [hs1]
    apply Array.toList_inj.mp
    simp [Array.eraseIdxIfInBounds]
    rw [List.eraseIdx_append_of_length_le (Nat.le_refl _), Nat.sub_self]
    simp
  rw [e1, if_neg (by rw [hs1]; simp)] at ho'
  have hs : Heap.SameBut D s.heap (s.heap.update D (Obj.mapSeq fun xs => xs.eraseIdxIfInBounds ((us ++ [y]).toArray.size - 1))) := Heap.SameBut.update ..
  exact h _ (Fm.change hs z.2.1 z.2.2) (news_set N a b hs ho')
end
section
variable {w : World} {A : Around} {E : Value → Shared → Prop} {s : Shared} {g : Heap} {L : Addr} {m : Str → Option Value} {news news' : List (Addr × Obj)}
theorem pop0_K {D : Addr} {us : List Value} {y : Value} {n : Nat} {u : Tok} {Q : Value → Shared → Prop} (Fm : Fr g L s.heap m) (N : News g L s.heap news) (U : Upd D (listOf (y :: us).toArray n) (listOf us.toArray (n + 1)) news news')
    (h : ∀ h', Fr g L h' m → News g L h' news' → Q y { s with heap := h' }) (hsz : us.length < 1000) : wpAny (model P0 w) A (call (.builtin "list.pop") [.ref D, .int 0 u]) Q E s := by
  obtain ⟨pre, post, rfl, rfl, a, b⟩ := U.split
  have z := N (D, listOf (y :: us).toArray n) (List.mem_append.mpr (.inr (.head _)))
  have hl : IsL s.heap D (y :: us).toArray n := z.1
  have hs1 : (y :: us).toArray.size = us.length + 1 := by simp
  refine call_meets F.slot_list_pop ⟨_, hl, rfl⟩ F.entry_list_pop (F.args_list_pop_2 _ _) (PySem.MeetsSeq.list_pop_at D (y :: us).toArray n 0 u 0 y (by decide) (by rw [hs1]; unfold seqIndex?; simp) (by simp) (by rw [hs1]; exact Nat.le_trans (show us.length + 1 ≤ 1000 by omega) (by decide))) ⟨hl, ?_⟩
  have ho' := hl.update (fun xs => xs.eraseIdxIfInBounds 0)
  have e1 : (y :: us).toArray.eraseIdxIfInBounds 0 = us.toArray := by
    apply Array.toList_inj.mp
    simp [Array.eraseIdxIfInBounds]
  rw [e1, if_neg (by rw [hs1]; simp)] at ho'
  have hs : Heap.SameBut D s.heap (s.heap.update D (Obj.mapSeq fun xs => xs.eraseIdxIfInBounds 0)) := Heap.SameBut.update ..
  exact h _ (Fm.change hs z.2.1 z.2.2) (news_set N a b hs ho')
end
theorem keep_read {g g₁ h h' : Heap} {L : Addr} {m : Str → Option Value} {X G nw : List (Addr × Obj)} (kp : Keep (ads (X ++ G)) h g₁) (OX : Own g h X) (F : Fr g₁ L h' m) (N : News g₁ L h' nw) (hx : ∀ p ∈ X, p ∈ nw) : Keep (ads G) h h' := fun b o hb ho => by
  by_cases q : b ∈ ads X
  · obtain ⟨p, hp, rfl⟩ := List.mem_map.mp q
    rw [(OX p hp).1] at ho; cases ho
    exact (N p (hx p hp)).1
  · exact F.keep _ _ (kp b o (fun hm => by
      rw [ads, List.map_append] at hm
      exact (List.mem_append.mp hm).elim q hb) ho)
theorem own_at {g g₁ h' : Heap} {L : Addr} {nw own : List (Addr × Obj)} (gg : Sub g g₁) (N : News g₁ L h' nw) (hs : ∀ p ∈ own, p ∈ nw) : Own g h' own := fun p hp => ⟨(N p (hs p hp)).1, gnone gg (N p (hs p hp)).2.2⟩
end
section
example : True := by w_top off; trivial
/-! iter(f, '') -/
theorem wpAny_callBorrowed {M : Model} {A : Around} {E : Value → Shared → Prop} {s : Shared} {f : Value} {pos : List Value} {Q : Value → Shared → Prop}
    (hc : codeAny M A (.call f ⟨pos, []⟩) (fun r s' => match r with | .ok (.ret v) => Q v s' | .ok _ => False | .error e => E e s') s) : wpAny M A (callBorrowed f pos) Q E s := fun Γ p hΓ => by
  show wpCode M (Γ.enter (.call f ⟨pos, []⟩) none p) _ p s
  have := hc _ p rfl (hΓ.enter (.call f ⟨pos, []⟩) none p (by intro x; cases x))
  refine Eq.mp ?_ this
  congr 1
  funext r s'
  cases r with
  | error e => rfl
  | ok f => cases f <;> rfl
theorem slot_cit_next : Slot "callable_iterator" "__next__" "callable_iterator.__next__" :=
  .of (owner := "callable_iterator") (n := "__next__") (by rw [typeLookup_type, builtinLookup_eq_fast]; kernel_rfl) (by decide +kernel) (by decide +kernel) (by decide +kernel)
    (by first | exact .inl (by decide +kernel) | exact .inr (by decide +kernel)) (by rw [isSubtype_type]; kernel_rfl)
theorem entry_cit_next : entryFor table "callable_iterator.__next__" = some Builtin.«callable_iterator.__next__» := entryFor_of_tree (by kernel_rfl)
theorem args_cit_next_1 (a : Value) : argsOk "callable_iterator.__next__" ⟨[a], []⟩ := by unfold argsOk; kernel_rfl
theorem slot_cit_iter : Slot "callable_iterator" "__iter__" "callable_iterator.__iter__" :=
  .of (owner := "callable_iterator") (n := "__iter__") (by rw [typeLookup_type, builtinLookup_eq_fast]; kernel_rfl) (by decide +kernel) (by decide +kernel) (by decide +kernel)
    (by first | exact .inl (by decide +kernel) | exact .inr (by decide +kernel)) (by rw [isSubtype_type]; kernel_rfl)
theorem args_cit_iter_1 (a : Value) : argsOk "callable_iterator.__iter__" ⟨[a], []⟩ := by unfold argsOk; kernel_rfl
theorem entry_cit_iter : entryFor table "callable_iterator.__iter__" = some Builtin.«dict_keyiterator.__iter__» :=
  entryFor_alias (id' := "dict_keyiterator.__iter__") (by kernel_rfl) (by first | rfl | decide +kernel | (unfold String.splitOn; simp +decide [String.splitOnAux])) (by decide +kernel) (by kernel_rfl)
theorem entry_iter : entryFor table "iter" = some Builtin.«iter» := entryFor_of_fast (by kernel_rfl)
theorem args_iter_2 (a b : Value) : argsOk "iter" ⟨[a, b], []⟩ := by unfold argsOk; kernel_rfl
theorem lookup_method_call : typeLookup (.type "method") "__call__" = pure (some (.builtin "method.__call__")) := by rw [typeLookup_type, builtinLookup_eq_fast]; kernel_rfl
section
variable {w : World} {A : Around} {E : Value → Shared → Prop} {s : Shared}
def citObj (mt : Value) (sent : Value) (b : Bool) : Obj := { cls := .type "callable_iterator", data := .fields #[mt, sent, .bool b] }
theorem borrows_method {m f : Addr} {x : Value} {fo : Obj} {fd : FuncData} {Q : Bool → Shared → Prop} (hm : s.heap.get? m = some (methodObj (.ref f) x)) (hf : s.heap.get? f = some fo) (hd : fo.data = .func fd) (h : Q true s) :
    wpAny (model P0 w) A (borrowsExactly (.ref m)) Q E s := by
  unfold borrowsExactly
  refine wpAny_bind (wpAny_load hm ?_)
  dsimp only [methodObj]
  rw [if_pos (by decide)]
  refine wpAny_bind (wpAny_load hf ?_)
  rw [hd]
  exact wpAny_pure h
theorem iter2_K {m f : Addr} {x : Value} {sent : Value} {Q : Value → Shared → Prop} {g : Heap} {L : Addr} {mm : Str → Option Value} {news : List (Addr × Obj)} (Fm : Fr g L s.heap mm) (N : News g L s.heap news) (hm : (m, methodObj (.ref f) x) ∈ news)
    (h : ∀ I h', Fr g L h' mm → News g L h' ((I, citObj (.ref m) sent false) :: news) → (∀ p ∈ news, p.1 < I) → Q (.ref I) { s with heap := h' }) :
    wpAny (model P0 w) A (call (.builtin "iter") [.ref m, sent]) Q E s := by
  have hT : s.TypeIs (.ref m) "method" := ⟨_, (N _ hm).1, rfl⟩
  refine PySem.Calls.call_function_entry (by decide +kernel) (by decide +kernel) entry_iter (args_iter_2 _ _) ?_
  unfold Builtin.«iter»
  refine wpAny_bind (m := someArgs "iter" 1 2 _) (wpAny_of_eq (a := [Value.ref m, sent]) (by first | rfl | kernel_rfl!) ?_)
  dsimp only
  refine wpAny_bind (wpAny_specialOf hT lookup_method_call ?_)
  rw [if_neg (by decide)]
  refine wpAny_bind (wpAny_rule ?_)
  refine wpAny_bind (wpAny_newObj_type ?_)
  exact wpAny_pure ⟨_, rfl, h _ _ (Fm.push _) (News.push Fm N _ rfl) (fun q hq => Heap.lt_size (N q hq).1)⟩
end
section
variable {w : World} {A : Around} {E : Value → Shared → Prop} {s : Shared}
theorem iter_cit {it : Addr} {mt sent : Value} {b : Bool} {Q : Value → Shared → Prop} (hit : s.heap.get? it = some (citObj mt sent b)) (h : Q (.ref it) s) : wpAny (model P0 w) A (pyIter (.ref it)) Q E s := by
  have hT : s.TypeIs (.ref it) "callable_iterator" := ⟨_, hit, rfl⟩
  refine wpAny_pyIter_slot hT slot_cit_iter (wpAny_call_entry slot_cit_iter hT entry_cit_iter ?_ (args_cit_iter_1 _))
  show wpAny _ _ (ret (.ref it)) _ _ s
  exact wpAny_pure ⟨_, rfl, "callable_iterator", _, hT, slot_cit_next.lookup, h⟩
theorem wpAny_stop {α : Type} {Q : α → Shared → Prop} {E' : Value → Shared → Prop} (hh : A.handled = none) (h : ∀ h' v, Sub s.heap h' → ({ s with heap := h' } : Shared).TypeIs v "StopIteration" → E' v { s with heap := h' }) :
    wpAny (model P0 w) A (Builtin.SmallTypes.stopIteration : Sem α) Q E' s := by
  unfold Builtin.SmallTypes.stopIteration
  refine wpAny_bind ?_
  simp only [newExc, newTuple]
  refine wpAny_bind (wpAny_newObj_type ?_ (by size_fits))
  refine wpAny_bind (m := firstArgMember _ _) (wpAny_of_eq (a := Value.none) (by first | rfl | (simp only [firstArgMember]; rfl)) ?_)
  refine wpAny_newObj_type ?_ (by size_fits)
  simp only [raiseNew]
  refine wpAny_bind (wpAny_handled ?_)
  rw [hh]
  refine wpAny_bind (wpAny_pure (wpAny_throw ?_))
  exact h _ _ (fun b o e => Heap.get?_push_of_some _ (Heap.get?_push_of_some _ e)) ⟨_, Heap.get?_push_size _ rfl, rfl⟩
theorem next_ended {it : Addr} {Q : Option Value → Shared → Prop} (hh : A.handled = none) (hit : s.heap.get? it = some (citObj .none .none true)) (h : ∀ h', Sub s.heap h' → Q none { s with heap := h' }) : wpAny (model P0 w) A (pyNext (.ref it)) Q E s := by
  have hT : s.TypeIs (.ref it) "callable_iterator" := ⟨_, hit, rfl⟩
  unfold pyNext
  refine wpAny_bind (wpAny_attempt (wpAny_callSpecial?_slot (name := Str.ofString "__next__") hT slot_cit_next
    (wpAny_call_entry slot_cit_next hT entry_cit_next ?_ (args_cit_next_1 _))))
  unfold Builtin.«callable_iterator.__next__»
  refine wpAny_bind (wpAny_of_eq (a := (Value.ref it, [])) rfl ?_)
  try dsimp only
  refine wpAny_bind (wpAny_field hit rfl (x := .bool true) rfl ?_)
  rw [if_pos (by decide)]
  refine wpAny_bind (wpAny_rule ?_)
  refine wpAny_bind (wpAny_stop (A := A.in1) hh fun h' v k hv => ?_)
  refine wpAny_bind (wpAny_isInstance (T := "StopIteration") (b := true) hv isSubtype_stop ?_)
  exact wpAny_pure (h h' k)
theorem callOut {m f : Addr} {x : Value} {fo : Obj} {fd : FuncData} {Q : Value → Shared → Prop} (hm : s.heap.get? m = some (methodObj (.ref f) x)) (hf : s.heap.get? f = some fo) (hd : fo.data = .func fd)
    (h : codeAny (model P0 w) A (.call (.ref f) ⟨[x], []⟩) (fun r s' => match r with | .ok (.ret v) => Q v s' | .ok _ => False | .error e => E e s') s) : wpAny (model P0 w) A (callOutOfASlot (.ref m)) Q E s := by
  unfold callOutOfASlot
  refine wpAny_bind (borrows_method hm hf hd ?_)
  rw [if_pos rfl]
  exact wpAny_callBorrowed (method_call hm h)
/-- the next item of iter(f, ''): what the call gives, or the end -/
theorem next_cit {it m f : Addr} {x : Value} {ts : Tok} {fo : Obj} {fd : FuncData} {Q : Option Value → Shared → Prop} (hh : A.handled = none) (hit : s.heap.get? it = some (citObj (.ref m) (.str "" ts) false)) (hm : s.heap.get? m = some (methodObj (.ref f) x)) (hf : s.heap.get? f = some fo) (hd : fo.data = .func fd)
    (h : codeAny (model P0 w) A.in1 (.call (.ref f) ⟨[x], []⟩) (fun r s' => match r with
      | .ok (.ret v) => ∃ (z : Str) (u : Tok), v = .str z u ∧ s'.heap.get? it = some (citObj (.ref m) (.str "" ts) false) ∧ s'.heap.get? m = some (methodObj (.ref f) x) ∧ s'.heap.get? f = some fo ∧
          (z ≠ "" → Q (some (.str z u)) s') ∧ (z = "" → ∀ h', Keep [it] s'.heap h' → h'.get? it = some (citObj .none .none true) → Q none { s' with heap := h' })
      | _ => False) s) : wpAny (model P0 w) A (pyNext (.ref it)) Q E s := by
  have hT : s.TypeIs (.ref it) "callable_iterator" := ⟨_, hit, rfl⟩
  unfold pyNext
  refine wpAny_bind (wpAny_attempt (wpAny_callSpecial?_slot (name := Str.ofString "__next__") hT slot_cit_next
    (wpAny_call_entry slot_cit_next hT entry_cit_next ?_ (args_cit_next_1 _))))
  unfold Builtin.«callable_iterator.__next__»
  refine wpAny_bind (wpAny_of_eq (a := (Value.ref it, [])) rfl ?_)
  try dsimp only
  refine wpAny_bind (wpAny_field hit rfl (x := .bool false) rfl ?_)
  rw [if_neg (by decide)]
  refine wpAny_bind (wpAny_field hit rfl (x := .ref m) rfl ?_)
  refine wpAny_bind (wpAny_attempt (callOut hm hf hd (codeAny_mono h fun r s' z => ?_)))
  rcases r with e | (v | _ | _ | _) <;> first | exact z.elim | skip
  obtain ⟨z, u, rfl, hit', hm', hf', q1, q2⟩ := z
  refine wpAny_bind (wpAny_field hit' rfl (x := .bool false) rfl ?_)
  rw [if_neg (by decide)]
  refine wpAny_bind (wpAny_field hit' rfl (x := .str "" ts) rfl ?_)
  refine wpAny_bind (wpAny_holding (wpAny_eqBool_str ?_))
  by_cases hz : z = ""
  · subst hz
    rw [if_neg (by decide)]
    refine wpAny_bind (wpAny_rule ?_)
    refine wpAny_bind ?_
    refine wpAny_bind (m := field (.ref it) 0) (wpAny_field hit' rfl (x := .ref m) rfl ?_)
    refine wpAny_bind ?_
    unfold slotLetsGo
    refine wpAny_bind (borrows_method hm' hf' hd ?_)
    rw [if_pos rfl]
    refine wpAny_pure ?_
    refine wpAny_bind (wpAny_setField_rec hit' (by simp) fun h1 e1 k1 => ?_)
    refine wpAny_bind (wpAny_setField_rec e1 (by simp) fun h2 e2 k2 => ?_)
    refine wpAny_setField_rec e2 (by simp) fun h3 e3 k3 => ?_
    refine wpAny_stop (A := A.in1) hh fun h' v k hv => ?_
    refine wpAny_bind (wpAny_isInstance (T := "StopIteration") (b := true) hv isSubtype_stop ?_)
    refine wpAny_pure (q2 rfl h' (fun b o hb ho => ?_) (k _ _ e3))
    have hbi : b ≠ it := fun e => hb (e ▸ List.mem_singleton_self _)
    exact k _ _ ((k3.2 b hbi).trans ((k2.2 b hbi).trans ((k1.2 b hbi).trans ho)))
  · rw [if_pos (by rw [decide_eq_false (fun e => hz e.symm)]; rfl)]
    exact wpAny_pure ⟨_, rfl, wpAny_pure (q1 hz)⟩
end
end
section
example : True := by w_top off; trivial
/-! comprehensions in ledger form -/
abbrev testsOf (ifs : List Expr) (env : Env) : Sem Bool := forIn ifs true fun c r => if r = true then do let ok ← isTrue c env (eval c env); pure (ForInStep.yield ok) else pure (ForInStep.yield r)
section
variable {w : World} {A : Around} {E : Value → Shared → Prop} {env : Env} {scope : Scope} {cl : List (Str × Addr)} {x : Str} {px pos : Pos} {elt iter : Expr} {ifs : List Expr} {s₂ : Shared} {g : Heap} {L I : Addr} {m : Str → Option Value} {o : Obj} {news : List (Addr × Obj)} {n : Nat} {P : Nat → Value → Prop} {St : Nat → Heap → Prop} {fp : List Addr}
/-- what one turn leaves -/
def TurnEnd (s₂ : Shared) (g₂ : Heap) (C I D : Addr) (o' : Obj) (ys : List Value) (e : Nat) (J : List (Addr × Obj) → Prop) (s' : Shared) : Prop :=
  ∃ h'' t'' m'' G', s' = At s₂ h'' t'' ∧ Fr g₂ C h'' m'' ∧ News g₂ C h'' ((I, o') :: (D, listOf ys.toArray e) :: G') ∧ (I :: D :: ads G').Nodup ∧ J G'
theorem compCore {RR : Value → Addr → Result → Shared → Prop}
  (B : Bs w g) (F : Fr g L s₂.heap m) (N : News g L s₂.heap ((I, o) :: news)) (nd : (I :: ads news).Nodup)
  (W : Walks P0 w A I fp [I] n P St) (hSo : ∀ i h, St i h → ∃ o', h.get? I = some o') (hst0 : St 0 s₂.heap)
  (J : Nat → List Value → List (Addr × Obj) → Prop) (h0 : J 0 [] news) (hlen : ∀ i ys G, J i ys G → ys.length ≤ 900)
  (hfp : ∀ b ∈ fp, b = I ∨ ∃ ob, ∀ i ys G, J i ys G → (b, ob) ∈ G)
  (hcell : ∀ y ∈ scope.names, y.2 ≠ .cell) (hkind : scope.kind = .function) (hx : scope.names.lookup x = some .local)
  (turn : ∀ (g₂ : Heap) (C D : Addr) (i : Nat) (v : Value) (ys : List Value) (G : List (Addr × Obj)) (o' : Obj) (e : Nat) (h : Heap) (t : Nat) (m' : Str → Option Value), Sub g g₂ → Bs w g₂ → i < n → P i v → J i ys G → Fr g₂ C h (fun y => if y = x then some v else m' y) → News g₂ C h ((I, o') :: (D, listOf ys.toArray e) :: G) → (I :: D :: ads G).Nodup →
     wpAny (model P0 w) A (testsOf ifs (compEnvC scope cl C env)) (fun ok s₃ => if ok = true then wpAny (model P0 w) A (eval elt (compEnvC scope cl C env)) (fun y s₄ => TurnEnd s₂ g₂ C I D o' ys e (J (i + 1) (ys ++ [y])) s₄) (fun _ _ => False) s₃
        else TurnEnd s₂ g₂ C I D o' ys e (J (i + 1) ys) s₃) (fun _ _ => False) (At s₂ h t))
  (hRR : ∀ D C ys G e h t m', C ≠ L → g.get? C = none → (∀ p ∈ (D, listOf ys.toArray e) :: G, p.1 ≠ C) → J n ys G → Fr g L h m → News g L h ((D, listOf ys.toArray e) :: G) → (D :: ads G).Nodup → h.Ns C m' → RR (.ref D) C (.ok .next) (At s₂ h t)) :
  wpAny (model P0 w) A (newList []) (fun acc s₃ => wpAny (model P0 w) A (newFunctionEnv scope env.globals cl [] env.qual none .none (some env)) (fun cenv s₄ =>
      codeAny (model P0 w) A (.compStart (.ListComp elt [⟨.Name x px, iter, ifs, 0⟩] scope pos) 0 (.ref I) acc { cenv with scope := relabel scope env }) (RR acc cenv.locals) s₄) E s₃) E s₂ := by
  refine wpAny_newObj_type (wpAny_newFunctionEnv hcell (by intro y hy; simp at hy) (fun h₁ hns₁ hsb₁ => ?_) hkind)
  dsimp only at hns₁ hsb₁ ⊢
  generalize hH2 : s₂.heap.push { cls := .type "list", dict := none, data := .seq ([] : List Value).toArray } = H2 at hns₁ hsb₁ ⊢
  generalize hDe : s₂.heap.objs.size = D at hns₁ hsb₁ ⊢
  generalize hCe : H2.objs.size = C at hns₁ hsb₁ ⊢
  have hDn : s₂.heap.get? D = none := Heap.get?_none_of_le (by rw [hDe]; exact Nat.le_refl _)
  have hCD : C = D + 1 := by rw [← hCe, ← hDe, ← hH2, Heap.size_push]
  have hDC : D ≠ C := by rw [hCD]; exact Nat.ne_of_lt (Nat.lt_succ_self _)
  have hCn : s₂.heap.get? C = none := Heap.get?_none_of_le (by rw [hDe, hCD]; exact Nat.le_succ _)
  have old : ∀ b o, s₂.heap.get? b = some o → h₁.get? b = some o := fun b o e =>
    hsb₁.extBut b o (fun e2 => by rw [e2, hCn] at e; cases e) (Heap.get?_push_of_some _ (hH2 ▸ Heap.get?_push_of_some _ e))
  have hD1 : h₁.get? D = some (listOf ([] : List Value).toArray 0) := hsb₁.extBut _ _ hDC (Heap.get?_push_of_some _ (hH2 ▸ Heap.get?_push_at hDe.symm rfl))
  -- the ground of the block
  have hL : L ∉ ads ((I, o) :: news) := fun hb => by obtain ⟨p, hp, e⟩ := List.mem_map.mp hb; exact (N p hp).2.1 e
  have gg : Sub g (hideAll s₂.heap (ads ((I, o) :: news))) := sub_hide F.keep fun b hb => by obtain ⟨p, hp, rfl⟩ := List.mem_map.mp hb; exact (N p hp).2.2
  have gn : ∀ b, s₂.heap.get? b = none → (hideAll s₂.heap (ads ((I, o) :: news))).get? b = none := fun b hb => by
    cases q : (hideAll s₂.heap (ads ((I, o) :: news))).get? b with
    | none => rfl
    | some o => rw [of_hideAll _ q] at hb; cases hb
  have gk : ∀ b ob, b ∉ ads ((I, o) :: news) → s₂.heap.get? b = some ob → (hideAll s₂.heap (ads ((I, o) :: news))).get? b = some ob := fun b ob hb e => hideAll_get _ e hb
  have gin : ∀ b ∈ ads ((I, o) :: news), (hideAll s₂.heap (ads ((I, o) :: news))).get? b = none := fun b hb => hideAll_none _ hb
  have gs : Sub (hideAll s₂.heap (ads ((I, o) :: news))) s₂.heap := fun b o e => of_hideAll _ e
  have gz : (hideAll s₂.heap (ads ((I, o) :: news))).objs.size = D := (hideAll_size _ _).trans hDe
  generalize hideAll s₂.heap (ads ((I, o) :: news)) = g₂ at gg gn gk gin gs gz
  have hC2 := gn _ hCn
  have hD2 := gn _ hDn
  have F1 : Fr g₂ C h₁ (fun y => ([] : List (Str × Value)).reverse.lookup y) := ⟨hns₁, fun b o e => old b o (gs b o e), by rw [gz, hCD]; exact Nat.le_succ _⟩
  have N1 : News g₂ C h₁ ((I, o) :: (D, listOf ([] : List Value).toArray 0) :: news) := by
    have h1 : ∀ p ∈ (I, o) :: news, h₁.get? p.1 = some p.2 ∧ p.1 ≠ C ∧ g₂.get? p.1 = none := fun p hp =>
      ⟨old _ _ (N p hp).1, fun e => (by have := (N p hp).1; rw [e, hCn] at this; cases this), gin _ (List.mem_map_of_mem hp)⟩
    intro p hp
    rcases List.mem_cons.mp hp with rfl | hp
    · exact h1 _ (.head _)
    · rcases List.mem_cons.mp hp with rfl | hp
      · exact ⟨hD1, hDC, hD2⟩
      · exact h1 _ (.tail _ hp)
  have nd1 : (I :: D :: ads news).Nodup := by
    have hDm : ∀ p ∈ (I, o) :: news, p.1 ≠ D := fun p hp e => by have := (N p hp).1; rw [e, hDn] at this; cases this
    have n1 := List.nodup_cons.mp nd
    refine List.nodup_cons.mpr ⟨fun hm => ?_, List.nodup_cons.mpr ⟨fun hm => ?_, n1.2⟩⟩
    · rcases List.mem_cons.mp hm with e | hm
      · exact hDm _ (.head _) e
      · exact n1.1 hm
    · obtain ⟨p, hp, e⟩ := List.mem_map.mp hm
      exact hDm p (.tail _ hp) e
  have hst₁ : St 0 h₁ := W.frame _ _ _ hst0 fun b _ o e => old b o e
  have fin : ∀ {ys : List Value} {G : List (Addr × Obj)} {e : Nat} {h : Heap} {t : Nat} {m' : Str → Option Value}, J n ys G → Fr g₂ C h m' → News g₂ C h ((D, listOf ys.toArray e) :: G) → (I :: D :: ads G).Nodup → RR (.ref D) C (.ok .next) (At s₂ h t) := fun {ys G e h t m'} hj F' N' nd' => by
    have hLC : C ≠ L := fun e => by obtain ⟨oL, _, _, e1, _⟩ := F.ns; rw [← e, hCn] at e1; cases e1
    obtain ⟨oL, esL, epL, eL, rL⟩ := F.ns
    have hL2 := gk _ _ hL eL
    refine hRR D C ys G e h t m' hLC (gnone gg hC2) (fun p hp => (N' p hp).2.1) hj ⟨⟨oL, esL, epL, F'.keep _ _ hL2, rL⟩, fun b o e => F'.keep b o (gg b o e), F.above⟩ (fun p hp => ?_) (ndt nd') F'.ns
    have z := N' p hp
    exact ⟨z.1, fun e => by rw [e, hL2] at z; exact absurd z.2.2 (by simp), gnone gg z.2.2⟩
  have loop : codeAny (model P0 w) A (.compLoop (.ListComp elt [⟨.Name x px, iter, ifs, 0⟩] scope pos) 0 (.ref I) (.ref D) (compEnvC scope cl C env)) (RR (.ref D) C) { s₂ with heap := h₁, toks := s₂.toks + ([] : List (Str × Value)).length } := by
    refine codeAny_compLoop_tests (fun k s' => ∃ i h t m' ys G o' e, s' = At s₂ h t ∧ Fr g₂ C h m' ∧ News g₂ C h ((I, o') :: (D, listOf ys.toArray e) :: G) ∧ (I :: D :: ads G).Nodup ∧ J i ys G ∧ St i h ∧ i ≤ n ∧ k = n + 1 - i) ?_ (n + 1) ⟨0, h₁, _, _, [], news, o, 0, rfl, F1, N1, nd1, h0, hst₁, Nat.zero_le _, rfl⟩
    rintro k s' ⟨i, h, t, m', ys, G, o', e, rfl, F', N', nd', hj, hst, hi, rfl⟩
    by_cases hlt : i < n
    · refine W.item i _ _ _ hlt hst fun v h' tk hP hst' hk => ?_
      obtain ⟨o2, ho2⟩ := hSo _ _ hst'
      obtain ⟨F2, N2⟩ := iter_turn F' N' nd' (fun b o hb e => hk b o hb e) ho2
      refine wpAny_assign_Name (wpAny_storeName_local (lookup_relabel_local hx) F2.ns (fun h3 hn3 hs3 => ?_) (by simp [compEnvC, relabel, hkind]))
      have F3 := F2.set hn3 hs3
      have N3 := N2.set hs3
      -- what keeps the iterator's state
      have keepSt : ∀ {h'' : Heap} {m'' : Str → Option Value} {ys' : List Value} {G' : List (Addr × Obj)} {e' : Nat}, Fr g₂ C h'' m'' → News g₂ C h'' ((I, o2) :: (D, listOf ys'.toArray e') :: G') → (∃ ys, J (i + 1) ys G') → St (i + 1) h'' := fun {h'' m'' ys' G' e'} F4 N4 hj4 => by
        refine W.frame _ _ _ hst' fun b hb ob eb => ?_
        rcases hfp b hb with rfl | ⟨oc, hoc⟩
        · rw [ho2] at eb; cases eb; exact (N4 _ (.head _)).1
        · have h5 := (N2 _ (.tail _ (.tail _ (hoc _ _ _ hj)))).1
          rw [eb] at h5; cases h5
          obtain ⟨ys4, hj4⟩ := hj4
          exact (N4 _ (.tail _ (.tail _ (hoc _ _ _ hj4)))).1
      refine wpAny_mono (turn g₂ C D i v ys G o2 e h3 _ m' gg (B.keeps gg) hlt hP hj F3 N3 nd') (fun ok s₃ h₃ => ?_) fun _ _ e => e.elim
      cases ok with
      | false =>
        rw [if_neg (by decide)] at h₃
        obtain ⟨h'', t'', m'', G', rfl, F4, N4, nd4, hj4⟩ := h₃
        exact ⟨n + 1 - (i + 1), by omega, i + 1, h'', t'', m'', ys, G', o2, e, rfl, F4, N4, nd4, hj4, keepSt F4 N4 ⟨_, hj4⟩, by omega, rfl⟩
      | true =>
        rw [if_pos rfl] at h₃
        refine wpAny_mono h₃ (fun y s₄ h₄ => ?_) fun _ _ e => e.elim
        obtain ⟨h'', t'', m'', G', rfl, F4, N4, nd4, hj4⟩ := h₄
        have hl4 := hlen _ _ _ hj4
        rw [List.length_append] at hl4
        have hsz4 : ys.toArray.size ≤ sizeLine := by rw [List.size_toArray]; exact Nat.le_trans (show ys.length ≤ 1000 by omega) (by decide)
        refine append_K (hsz := hsz4) F4 N4 (upd_s nd4 rfl (upd_z (ndt nd4) rfl)) fun h5 F5 N5 => ?_
        · have e5 : ys.toArray.push y = (ys ++ [y]).toArray := by simp
          rw [e5] at N5
          exact ⟨n + 1 - (i + 1), by omega, i + 1, h5, t'', m'', ys ++ [y], G', o2, e + 1, rfl, F5, N5, nd4, hj4, keepSt F5 N5 ⟨_, hj4⟩, by omega, rfl⟩
    · have e0 : i = n := by omega
      subst e0
      refine W.done _ _ _ hst fun h' tk hk => ?_
      obtain ⟨F2, N2⟩ := iter_end F' N' nd' (fun b o hb e => hk b o hb e)
      exact fin hj F2 N2 nd'
  exact codeAny_compStart_list loop (W.self 0 _ _ _ hst₁ loop)
end
/-- what a block needs behind its iterator -/
structure CompG (w : World) (A : Around) (env : Env) (scope : Scope) (cl : List (Str × Addr)) (x : Str) (elt : Expr) (ifs : List Expr) (s₂ : Shared) (Fin : Value → Heap → List Value → Nat → (Str → Option Value) → List (Addr × Obj) → Heap → Addr → Addr → Nat → Prop) (it : Value) : Prop where
  mk ::
  all : ∃ (g : Heap) (L I : Addr) (m : Str → Option Value) (o : Obj) (news : List (Addr × Obj)) (n : Nat) (P : Nat → Value → Prop) (St : Nat → Heap → Prop) (fp : List Addr) (J : Nat → List Value → List (Addr × Obj) → Prop),
    it = .ref I ∧ env.locals = L ∧ Bs w g ∧ Fr g L s₂.heap m ∧ News g L s₂.heap ((I, o) :: news) ∧ (I :: ads news).Nodup ∧ Walks P0 w A I fp [I] n P St ∧ (∀ i h, St i h → ∃ o', h.get? I = some o') ∧ St 0 s₂.heap ∧
    J 0 [] news ∧ (∀ i ys G, J i ys G → ys.length ≤ 900) ∧ (∀ b ∈ fp, b = I ∨ ∃ ob, ∀ i ys G, J i ys G → (b, ob) ∈ G) ∧
    (∀ (g₂ : Heap) (C D : Addr) (i : Nat) (v : Value) (ys : List Value) (G : List (Addr × Obj)) (o' : Obj) (e : Nat) (h : Heap) (t : Nat) (m' : Str → Option Value), Sub g g₂ → Bs w g₂ → i < n → P i v → J i ys G → Fr g₂ C h (fun y => if y = x then some v else m' y) → News g₂ C h ((I, o') :: (D, listOf ys.toArray e) :: G) → (I :: D :: ads G).Nodup →
     wpAny (model P0 w) A (testsOf ifs (compEnvC scope cl C env)) (fun ok s₃ => if ok = true then wpAny (model P0 w) A (eval elt (compEnvC scope cl C env)) (fun y s₄ => TurnEnd s₂ g₂ C I D o' ys e (J (i + 1) (ys ++ [y])) s₄) (fun _ _ => False) s₃
        else TurnEnd s₂ g₂ C I D o' ys e (J (i + 1) ys) s₃) (fun _ _ => False) (At s₂ h t)) ∧
    (∀ D ys G e h t, J n ys G → Fr g L h m → News g L h ((D, listOf ys.toArray e) :: G) → (D :: ads G).Nodup → Fin (.ref D) g ys e m G h L D t)
section
variable {w : World} {A : Around} {E : Value → Shared → Prop} {s : Shared} {env : Env} {scope : Scope} {cl : List (Str × Addr)} {x : Str} {px pos : Pos} {elt iter : Expr} {ifs : List Expr}
/-- a list comprehension, its value handed on -/
theorem compE {Q : Value → Shared → Prop} (hclos : closureFor scope env = pure cl) (hcell : ∀ y ∈ scope.names, y.2 ≠ .cell) (hkind : scope.kind = .function)
    (hnames : ∀ y ∈ scope.names, y.2 = .local → scope.names.lookup y.1 = some .local) (hx : scope.names.lookup x = some .local)
    (h : wpAny (model P0 w) A (eval iter env) (fun xv s₁ => wpAny (model P0 w) A (pyIter xv) (fun it s₂ => CompG w A env scope cl x elt ifs s₂ (fun D _ _ _ _ _ h _ _ t => Q D (At s₂ h t)) it) E s₁) E s)
    (hs : ∀ x, foldedSetIterable iter env x = pure x := by intro _; rfl) :
    wpAny (model P0 w) A (eval (.ListComp elt [⟨.Name x px, iter, ifs, 0⟩] scope pos) env) Q E s := by
  rw [eval_ListComp]
  refine wpAny_comprehension_free (use := none) rfl hs hclos hkind hnames (wpAny_mono h (fun xv s₁ h₁ => wpAny_mono h₁ (fun it s₂ h₂ => ?_) fun _ _ e => e) fun _ _ e => e)
  obtain ⟨g, L, I, m, o, news, n, P, St, fp, J, rfl, hL, B, F, N, nd, W, hSo, hst0, h0, hlen, hfp, turn, fin⟩ := h₂.all
  refine compCore (RR := fun acc C => compPost (model P0 w) A E none Q acc C) B F N nd W hSo hst0 J h0 hlen hfp hcell hkind hx turn ?_
  intro D C ys G e h t m' hCL hCg hCn hj F' N' nd' hns
  refine ⟨m', hns, fun h' hs' => fin D ys G e h' t hj (F'.change hs' hCL hCg) (fun p hp => ?_) nd'⟩
  have z := N' p hp
  exact ⟨(hs'.2 _ (hCn p hp)).trans z.1, z.2⟩
/-- a list comprehension whose value goes to a local name at once -/
theorem compU {Q : Flow → Shared → Prop} {y : Str} {py spos : Pos}
    (hsw : swapsWith (.ListComp elt [⟨.Name x px, iter, ifs, 0⟩] scope pos) (some (.Name y py)) spos.line env = pure true)
    (hclos : closureFor scope env = pure cl) (hcell : ∀ y ∈ scope.names, y.2 ≠ .cell) (hkind : scope.kind = .function)
    (hnames : ∀ y ∈ scope.names, y.2 = .local → scope.names.lookup y.1 = some .local) (hx : scope.names.lookup x = some .local)
    (hy : env.kindOf y = some .local) (hp : (env.scope.kind == .class || (env.scope.kind == .module && env.locals != env.globals)) = false)
    (h : wpAny (model P0 w) A (eval iter env) (fun xv s₁ => wpAny (model P0 w) A (pyIter xv) (fun it s₂ => CompG w A env scope cl x elt ifs s₂ (fun _ g ys e m G h L D t => ∀ h' t', Fr g L h' (fun z => if z = y then some (.ref D) else m z) → News g L h' ((D, listOf ys.toArray e) :: G) → Q .next (At s₂ h' t')) it) E s₁) E s)
    (hs : ∀ x, foldedSetIterable iter env x = pure x := by intro _; rfl) :
    wpAny (model P0 w) A (exec (.Assign [.Name y py] (.ListComp elt [⟨.Name x px, iter, ifs, 0⟩] scope pos) spos) env) Q E s := by
  rw [exec_Assign_Name_used _ _ _ _ hsw]
  refine wpAny_bind (wpAny_standAt (wpAny_bind ?_))
  show wpAny _ A (do let _ ← comprehension (.ListComp elt [⟨.Name x px, iter, ifs, 0⟩] scope pos) scope env _ (newList []) false (eval iter env) (some (assign (.Name y py) env))) _ _ s
  refine wpAny_bind (wpAny_mono (wpAny_comprehension_free (use := some (assign (.Name y py) env)) (Q := fun _ s' => Q .next s') rfl hs hclos hkind hnames
    (wpAny_mono h (fun xv s₁ h₁ => wpAny_mono h₁ (fun it s₂ h₂ => ?_) fun _ _ e => e) fun _ _ e => e)) (fun _ s' hq => wpAny_pure (wpAny_pure hq)) fun _ _ e => e)
  obtain ⟨g, L, I, m, o, news, n, P, St, fp, J, rfl, hL, B, F, N, nd, W, hSo, hst0, h0, hlen, hfp, turn, fin⟩ := h₂.all
  subst hL
  refine compCore (RR := fun acc C => compPost (model P0 w) A E (some (assign (.Name y py) env)) (fun _ s' => Q .next s') acc C) B F N nd W hSo hst0 J h0 hlen hfp hcell hkind hx turn ?_
  intro D C ys G e h t m' hCL hCg hCn hj F' N' nd' hns
  show wpAny _ A (assign (.Name y py) env (.ref D)) _ _ _
  refine wpAny_assign_Name (wpAny_storeName_local hy F'.ns (fun h₂ hn₂ hs₂ => ?_) hp)
  refine ⟨m', hns.sameBut hs₂ hCL, fun h' hs' => ?_⟩
  have F2 := F'.set hn₂ hs₂
  have N2 := N'.set hs₂
  have F3 := F2.change hs' hCL hCg
  have N3 : News g env.locals h' ((D, listOf ys.toArray e) :: G) := fun p hp => by
    have z := N2 p hp
    exact ⟨(hs'.2 _ (hCn p hp)).trans z.1, z.2⟩
  exact fin D ys G e h t hj F' N' nd' h' _ F3 N3
end
section
variable {w : World} {A : Around} {E : Value → Shared → Prop} {s₂ : Shared} {env : Env} {scope : Scope} {cl : List (Str × Addr)} {x : Str} {px pos : Pos} {elt iter : Expr} {ifs : List Expr}
  {Fin : Value → Heap → List Value → Nat → (Str → Option Value) → List (Addr × Obj) → Heap → Addr → Addr → Nat → Prop} {g : Heap} {L I : Addr} {m : Str → Option Value} {o : Obj} {news : List (Addr × Obj)}
theorem compG_list {D0 : Addr} {items : Array Value} {e0 : Nat} (hh : A.handled = none) (hL : env.locals = L) (B : Bs w g) (F : Fr g L s₂.heap m) (N : News g L s₂.heap ((I, o) :: news)) (nd : (I :: ads news).Nodup)
  (hit : s₂.heap.IsListIter I D0 0) (hm : (D0, listOf items e0) ∈ news)
  (J : Nat → List Value → List (Addr × Obj) → Prop) (h0 : J 0 [] news) (hlen : ∀ i ys G, J i ys G → ys.length ≤ 900) (hJ : ∀ i ys G, J i ys G → (D0, listOf items e0) ∈ G)
  (turn : ∀ (g₂ : Heap) (C D : Addr) (i : Nat) (v : Value) (ys : List Value) (G : List (Addr × Obj)) (o' : Obj) (e : Nat) (h : Heap) (t : Nat) (m' : Str → Option Value), Sub g g₂ → Bs w g₂ → i < items.size → items[i]? = some v → J i ys G → Fr g₂ C h (fun y => if y = x then some v else m' y) → News g₂ C h ((I, o') :: (D, listOf ys.toArray e) :: G) → (I :: D :: ads G).Nodup →
     wpAny (model P0 w) A (testsOf ifs (compEnvC scope cl C env)) (fun ok s₃ => if ok = true then wpAny (model P0 w) A (eval elt (compEnvC scope cl C env)) (fun y s₄ => TurnEnd s₂ g₂ C I D o' ys e (J (i + 1) (ys ++ [y])) s₄) (fun _ _ => False) s₃
        else TurnEnd s₂ g₂ C I D o' ys e (J (i + 1) ys) s₃) (fun _ _ => False) (At s₂ h t))
  (fin : ∀ D ys G e h t, J items.size ys G → Fr g L h m → News g L h ((D, listOf ys.toArray e) :: G) → (D :: ads G).Nodup → Fin (.ref D) g ys e m G h L D t) :
  CompG w A env scope cl x elt ifs s₂ Fin (.ref I) := by
  have hne : D0 ≠ I := fun e => (List.nodup_cons.mp nd).1 (e ▸ List.mem_map_of_mem hm)
  refine ⟨g, L, I, m, o, news, items.size, _, _, [I, D0], J, rfl, hL, B, F, N, nd, Walks.list hh I D0 hne items, ?_, ?_, h0, hlen, ?_, turn, fin⟩
  · rintro i h ⟨⟨o', ho', _⟩, _⟩; exact ⟨o', ho'⟩
  · exact ⟨hit, ⟨_, (N _ (.tail _ hm)).1, rfl, _, rfl⟩⟩
  · intro b hb
    rcases List.mem_cons.mp hb with rfl | hb
    · exact .inl rfl
    · rw [List.mem_singleton.mp hb]; exact .inr ⟨_, hJ⟩
theorem compG_str {z : Str} {t0 : Tok} (hh : A.handled = none) (hL : env.locals = L) (B : Bs w g) (F : Fr g L s₂.heap m) (N : News g L s₂.heap ((I, o) :: news)) (nd : (I :: ads news).Nodup)
  (hit : s₂.heap.IsStrIter I "str_ascii_iterator" z t0 0)
  (J : Nat → List Value → List (Addr × Obj) → Prop) (h0 : J 0 [] news) (hlen : ∀ i ys G, J i ys G → ys.length ≤ 900)
  (turn : ∀ (g₂ : Heap) (C D : Addr) (i : Nat) (v : Value) (ys : List Value) (G : List (Addr × Obj)) (o' : Obj) (e : Nat) (h : Heap) (t : Nat) (m' : Str → Option Value), Sub g g₂ → Bs w g₂ → i < z.cps.size → SignAt z i v → J i ys G → Fr g₂ C h (fun y => if y = x then some v else m' y) → News g₂ C h ((I, o') :: (D, listOf ys.toArray e) :: G) → (I :: D :: ads G).Nodup →
     wpAny (model P0 w) A (testsOf ifs (compEnvC scope cl C env)) (fun ok s₃ => if ok = true then wpAny (model P0 w) A (eval elt (compEnvC scope cl C env)) (fun y s₄ => TurnEnd s₂ g₂ C I D o' ys e (J (i + 1) (ys ++ [y])) s₄) (fun _ _ => False) s₃
        else TurnEnd s₂ g₂ C I D o' ys e (J (i + 1) ys) s₃) (fun _ _ => False) (At s₂ h t))
  (fin : ∀ D ys G e h t, J z.cps.size ys G → Fr g L h m → News g L h ((D, listOf ys.toArray e) :: G) → (D :: ads G).Nodup → Fin (.ref D) g ys e m G h L D t) :
  CompG w A env scope cl x elt ifs s₂ Fin (.ref I) := by
  refine ⟨g, L, I, m, o, news, z.cps.size, _, _, [I], J, rfl, hL, B, F, N, nd, Walks.strAscii hh I z t0, ?_, hit, h0, hlen, ?_, turn, fin⟩
  · rintro i h ⟨o', ho', _⟩; exact ⟨o', ho'⟩
  · intro b hb
    exact .inl (List.mem_singleton.mp hb)
theorem compG_range {a : Int} {n : Nat} (hh : A.handled = none) (hL : env.locals = L) (B : Bs w g) (F : Fr g L s₂.heap m) (N : News g L s₂.heap ((I, o) :: news)) (nd : (I :: ads news).Nodup)
  (hit : IsRangeIter s₂.heap I a n 1)
  (J : Nat → List Value → List (Addr × Obj) → Prop) (h0 : J 0 [] news) (hlen : ∀ i ys G, J i ys G → ys.length ≤ 900)
  (turn : ∀ (g₂ : Heap) (C D : Addr) (i : Nat) (v : Value) (ys : List Value) (G : List (Addr × Obj)) (o' : Obj) (e : Nat) (h : Heap) (t : Nat) (m' : Str → Option Value), Sub g g₂ → Bs w g₂ → i < n → (∃ t, v = .int (a + i) t) → J i ys G → Fr g₂ C h (fun y => if y = x then some v else m' y) → News g₂ C h ((I, o') :: (D, listOf ys.toArray e) :: G) → (I :: D :: ads G).Nodup →
     wpAny (model P0 w) A (testsOf ifs (compEnvC scope cl C env)) (fun ok s₃ => if ok = true then wpAny (model P0 w) A (eval elt (compEnvC scope cl C env)) (fun y s₄ => TurnEnd s₂ g₂ C I D o' ys e (J (i + 1) (ys ++ [y])) s₄) (fun _ _ => False) s₃
        else TurnEnd s₂ g₂ C I D o' ys e (J (i + 1) ys) s₃) (fun _ _ => False) (At s₂ h t))
  (fin : ∀ D ys G e h t, J n ys G → Fr g L h m → News g L h ((D, listOf ys.toArray e) :: G) → (D :: ads G).Nodup → Fin (.ref D) g ys e m G h L D t) :
  CompG w A env scope cl x elt ifs s₂ Fin (.ref I) := by
  refine ⟨g, L, I, m, o, news, n, _, _, [I], J, rfl, hL, B, F, N, nd, Walks.range hh I a 1 n, ?_, ?_, h0, hlen, ?_, ?_, fin⟩
  · intro i h hi; exact ⟨_, hi⟩
  · show IsRangeIter _ _ _ _ _
    simpa using hit
  · intro b hb
    exact .inl (List.mem_singleton.mp hb)
  · intro g₂ C D i v ys G o' e h t m' h1 h2 h3 h4
    refine turn g₂ C D i v ys G o' e h t m' h1 h2 h3 ?_
    obtain ⟨t, rfl⟩ := h4
    exact ⟨t, by rw [Int.mul_one]⟩
end
section
variable {w : World} {A : Around} {E : Value → Shared → Prop} {s : Shared} {g : Heap} {L : Addr} {m : Str → Option Value} {news : List (Addr × Obj)} {Q : Value → Shared → Prop}
theorem iterRange {r : Addr} {a b : Int} {n : Nat} {t u v : Tok} (F : Fr g L s.heap m) (N : News g L s.heap news) (hr : IsRange s.heap r a b 1 t u v) (hn : b - a = n) (ha : 0 ≤ a) (hb : b < 1000)
    (h : ∀ I h' o, Fr g L h' m → News g L h' ((I, o) :: news) → (∀ p ∈ news, p.1 < I) → IsRangeIter h' I a n 1 → Q (.ref I) (At s h' s.toks)) : wpAny (model P0 w) A (pyIter (.ref r)) Q E s := by
  have hz : Builtin.Range.rangeSize a b 1 = n := by
    rw [rangeSize_one]; split <;> omega
  refine wpAny_pyIter_range hr ?_ (h _ _ _ (F.push _) (News.push F N _) (fun p hp => Heap.lt_size (N p hp).1) ?_)
  · unfold Builtin.Range.small Builtin.Range.rangeFitsLong
    rw [hz]
    simp only [Bool.and_eq_true, Bool.or_eq_true, decide_eq_true_eq, beq_iff_eq]
    rw [if_pos (by decide)]
    simp only [Bool.and_eq_true, decide_eq_true_eq]
    omega
  · rw [hz]; exact Heap.get?_push_size _ rfl
end
/-! names in a block -/
section
variable {M : Model} {A : Around} {E : Value → Shared → Prop} {s : Shared} {h₀ : Heap} {C : Addr} {m mg mb : Str → Option Value} {scope : Scope} {cl : List (Str × Addr)} {env : Env} {x : Str} {pos : Pos} {v : Value} {Q : Value → Shared → Prop} {K : Frag} {p : Program} {loose : List Str}
theorem nameY_L (F : Fr h₀ C s.heap m) (hv : m x = some v) (h : Q v s)
    (hk : (compEnvC scope cl C env).scope.kind = .function) (hx : (compEnvC scope cl C env).kindOf x = some .local) (hb : (x == ("__debug__" : Str)) = false := by decide) :
    wpAny M A (eval (.Name x pos) (compEnvC scope cl C env)) Q E s := wpAny_Name (wpAny_loadName_local hk hx F.ns hv h) hb
theorem nameY_K (F : Fr h₀ C s.heap m) (X : K.In h₀) (T : TopRead p loose mg mb h₀) (e : nsIn K mainGlobals x = some (some v)) (h : Q v s)
    (hg : env.globals = mainGlobals) (hk : (compEnvC scope cl C env).scope.kind = .function) (hx : (compEnvC scope cl C env).kindOf x = some .globalImplicit) (hd : (x == ("__debug__" : Str)) = false := by decide) :
    wpAny M A (eval (.Name x pos) (compEnvC scope cl C env)) Q E s := nameG_K F X T e h hg hk hx hd
theorem nameY_B (F : Fr h₀ C s.heap m) (X : K.In h₀) (T : TopRead p loose mg mb h₀) (e : nsIn K mainGlobals x = some none) (hv : bootBuiltins x = some v) (hn : x ≠ "__name__") (h : Q v s)
    (hg : env.globals = mainGlobals) (hb : env.builtins = builtinsNs) (hk : (compEnvC scope cl C env).scope.kind = .function) (hx : (compEnvC scope cl C env).kindOf x = some .globalImplicit) (hd : (x == ("__debug__" : Str)) = false := by decide) :
    wpAny M A (eval (.Name x pos) (compEnvC scope cl C env)) Q E s :=
  Calls.Name_function_global hk hx (Calls.loadGlobal_builtin (env := compEnvC scope cl C env) (by show Heap.Ns _ env.globals _; rw [hg]; exact T.g.keeps F.keep) (mg_none_of X T.g e) (by show Heap.Ns _ env.builtins _; rw [hb]; exact T.b.keeps F.keep) ((T.builtins x hn).trans hv) h) hd
end
theorem news_sub {g h : Heap} {L : Addr} {news news' : List (Addr × Obj)} (N : News g L h news) (hs : news'.Sublist news) : News g L h news' := fun p hp => N p (hs.subset hp)
theorem nd_sub {news news' : List (Addr × Obj)} (nd : (news.map (·.1)).Nodup) (hs : news'.Sublist news) : (news'.map (·.1)).Nodup := (hs.map (·.1)).nodup nd
end
local macro_rules | `(tactic| walk_at "cond") => `(tactic| first | assumption | omega | ((try simp only [decide_eq_true_eq, beq_iff_eq, bne_iff_ne, ne_eq, Bool.not_eq_true', Bool.not_eq_true, beq_eq_false_iff_ne, decide_eq_false_iff_not, Bool.not_true, Bool.not_false]); first | assumption | omega))
local macro_rules | `(tactic| walk_at "ite") => `(tactic| first | (refine ite_pos (by walk_at "cond") ?_) | (refine ite_neg (by walk_at "cond") ?_))
local macro_rules | `(tactic| walk_at "stop") => `(tactic| ((fail_if_success (with_reducible show Exists _)); (fail_if_success (with_reducible show wpAny _ _ (getMethod _ (Str.ofString "read") _) _ _ _)); (fail_if_success (with_reducible show wpAny _ _ (exec (Stmt.While _ _ _ _) _) _ _ _)); (fail_if_success (with_reducible show wpAny _ _ (exec (Stmt.For _ _ _ _ _) _) _ _ _)); (fail_if_success (with_reducible show wpAny _ _ (pyIter _) _ _ _)); (fail_if_success (with_reducible show wpAny _ _ (call (Value.ref _) _ _) _ _ _)); (fail_if_success (with_reducible show wpAny _ _ (eval (Expr.ListComp _ _ _ _) _) _ _ _)); (fail_if_success (with_reducible show wpAny _ _ (execs (List.drop _ _) _) _ _ _)); (fail_if_success (with_reducible show wpAny _ _ (setItem (Value.ref _) (Value.str _ _) _) _ _ _)); (fail_if_success (with_reducible show wpAny _ _ (subscriptTail _ _ (Value.ref _) (Value.str _ _)) _ _ _)); (fail_if_success (with_reducible show wpAny _ _ (compareOp CmpOp.NotIn (Value.str _ _) (Value.ref _)) _ _ _)); (fail_if_success (with_reducible show wpAny _ _ (compareOp CmpOp.NotEq (Value.ref _) (Value.ref _)) _ _ _)); (fail_if_success (with_reducible show wpAny _ _ (exec (Stmt.Assign _ (Expr.ListComp _ _ _ _) _) _) _ _ _))))
local macro_rules | `(tactic| walk_at "stm") => `(tactic| ((walk_at "stop"); (repeat ((with_reducible show wpAny _ _ (execs _ _) _ _ _); walk1)); repeat' ((fail_if_success (with_reducible show wpAny _ _ (execs (_ :: _) _) _ _ _)); (walk_at "stop"); first | walk1 | (dsimp only; walk1))); (try dsimp only); (try ((with_reducible rename Fr _ _ _ _ => Fx); dsimp only at Fx)))
local macro_rules | `(tactic| walk_at "stms") => `(tactic| (repeat' ((walk_at "stop"); first | walk1 | (dsimp only; walk1))); (try dsimp only); (try ((with_reducible rename Fr _ _ _ _ => Fx); dsimp only at Fx)))
local macro_rules | `(tactic| k_lt $h:ident) => `(tactic| ((with_reducible rename (List.Nodup _) => ndOld); have ndNew := nd_cons ndOld rfl $h; clear ndOld; clear $h))
local macro_rules | `(tactic| k_upd) => `(tactic| ((with_reducible rename (List.Nodup _) => ndq); first | (refine' upd_z ?nd ?ha; (case nd => exact ndq); (case ha => rfl)) | (refine' upd_s ?nd ?ha ?h; (case nd => exact ndq); (case ha => rfl); (case h => (replace ndq := ndt ndq; k_upd)))))
local macro_rules | `(tactic| k_updF) => `(tactic| ((with_reducible rename (List.Nodup _) => ndq); first | (refine' updF_z ?nd ?ha; (case nd => exact ndq); (case ha => rfl)) | (refine' updF_s ?nd ?ha ?h; (case nd => exact ndq); (case ha => rfl); (case h => (replace ndq := ndt ndq; k_updF)))))
local macro_rules | `(tactic| walk_at "eqm") => `(tactic| ((try simp only [List.reverse_cons, List.reverse_nil, List.nil_append, List.cons_append]); refine eqoff_start ?_; (repeat (first | (with_reducible exact eqoff_nil) | ((with_reducible refine eqoff_old ?h0 ?_); (case h0 => rfl)) | ((with_reducible refine eqoff_new ?h0 ?_); (case h0 => rfl)) | ((with_reducible refine eqoff_lko ?h0 ?_); (case h0 => rfl)) | ((with_reducible refine eqoff_lkn ?h0 ?_); (case h0 => rfl)) | (with_reducible refine eqoff_rn ?_) | ((with_reducible refine eqoff_r ?h0 ?_); (case h0 => rfl)) | (with_reducible refine eqoff_lkr ?_) | (with_reducible refine eqoff_lk0 ?_)))))
local macro_rules | `(tactic| walk_at "eval Name") => `(tactic| ((with_reducible show wpAny _ _ (eval (Expr.Name _ _) (compEnvC _ _ _ _)) _ _ _); k_dflt (first
  | (refine' nameY_L ?F ?v ?_ ?a ?b; (case F => k_asm); (case a => rfl); (case b => rfl); (case v => rfl); k_whole)
  | (refine' lcf_cell ?N ?c ?m ?d ?_ ?a ?b; (case a => rfl); (case b => rfl); (case N => k_asm); (case c => rfl); (case m => k_mem); (case d => k_asm); k_whole)
  | (refine' nameY_K ?F ?X ?T ?e ?_ ?g ?a ?b; (case F => k_asm); (case X => k_asm); (case T => k_asm); (case g => rfl); (case a => rfl); (case b => rfl); (case e => k_is); k_whole)
  | (refine' nameY_B ?F ?X ?T ?e ?v ?n ?_ ?g ?c ?a ?b; (case F => k_asm); (case X => k_asm); (case T => k_asm); (case g => rfl); (case c => rfl); (case a => rfl); (case b => rfl); (case e => k_is); (case v => boot_fast); (case n => decide); k_whole))))
local macro_rules | `(tactic| walk_at "eval Name") => `(tactic| ((with_reducible show wpAny _ _ (eval (Expr.Name _ _) (envX _ _ _ _ _ _)) _ _ _); k_dflt (refine' nameX_L ?F ?v ?_ ?a ?b; (case F => k_asm); (case a => rfl); (case b => rfl); (case v => first | rfl | assumption); k_whole)))
local macro_rules | `(tactic| walk_at "sub") => `(tactic| (repeat (first | (with_reducible exact List.Sublist.refl _) | (with_reducible refine List.Sublist.cons_cons _ ?_) | (with_reducible refine List.Sublist.cons _ ?_))))
section
example : True := by w_top off; trivial
abbrev tupO (vs : List Value) : Obj := { cls := .type "tuple", data := .seq vs.toArray }
theorem fdiv_nat (a b : Nat) : (a : Int).fdiv (b : Int) = ((a / b : Nat) : Int) := by
  rw [Int.fdiv_eq_ediv_of_nonneg _ (Int.natCast_nonneg _), ← Int.natCast_ediv]
theorem fmod_nat (a b : Nat) : (a : Int).fmod (b : Int) = ((a % b : Nat) : Int) := by
  rw [Int.fmod_eq_emod_of_nonneg _ (Int.natCast_nonneg _), ← Int.natCast_emod]

theorem div2n1n_ok (hK : PySem.Challenge.rw_pg0241_01 = PySem.Challenge.rw_pg0241_01 ∧ heapK = heapK) {w : World} {A : Around} {R : Result → Shared → Prop} {s : Shared} {g : Heap} {a b n : Nat} {ta tb tn : Tok}
   (B : Bs w g) (hg : Sub g s.heap) (hr : Rm A 1) (hb : 1 ≤ b) (hb2 : b < 2 ^ 64) (hn : a < 2 ^ 64)
   (h : ∀ h' t l tq tr, Sub s.heap h' → s.heap.get? l = none → h'.get? l = some (tupO [.int (a / b : Nat) tq, .int (a % b : Nat) tr]) → R (.ok (.ret (.ref l))) ⟨h', s.gens, s.drawn, t, s.os⟩) :
   codeAny (model P0 w) A (.call (.ref 39) ⟨[.int a ta, .int b tb, .int n tn], []⟩) R s := by
  revert hK; k_fill; intro hK; clear hK
  have hn : Builtin.Int.intBits (a : Int) ≤ 64 := intBits_le_iff.mpr (by simpa using hn)
  refine enterK (own := []) (k := 0) (binds := [("a", .int a ta), ("b", .int b tb), ("n", .int n tn)]) B hg Own.nil (by k_is) (by k_is) hr (by exact BindsTo.of_eq rfl) (by exact locs rfl) (fun g₁ L h₁ tk gg kp gs fr fr2 hL hlt B₁ F N dA fA gA uA r => ?_)
  obtain ⟨p, loose, mean, mg, mb, T⟩ := B₁.T
  have X := B₁.X
  repeat' walk1
  have hp := PyProof.noPylong_of_log2 (x := (a : Int)) (y := (b : Int)) (by
    have := Nat.log2_lt (n := b) (k := 64) (by omega) |>.mpr hb2
    rw [Int.natAbs_natCast]; omega)
  refine divmod_N F N (by omega) ?_ (.inl hp)
  intro h' F' N'
  rw [fdiv_nat, fmod_nat] at N'
  exact h _ _ _ _ _ (fun b o e => F'.keep _ _ (kp b o List.not_mem_nil e)) (by
    have := (N' _ (.head _)).2.2
    exact fr2 _ this List.not_mem_nil) (N' _ (.head _)).1
end
section
example : True := by w_top off; trivial
def in7 : Stmt := stmtAt 7 1
def inn7 (doc pm : Value) (cn ca ci : Addr) (c' : Addr) (ctv : Value) : Obj :=
  fnMade "inner" "_int2digits.<locals>.inner" (defParams in7) (defBody in7) (defScope in7) [("n", cn), ("inner", ci), ("a_digits", ca)] doc pm c' ctv

/-- the digits of x to the base 2^n, laid into places lo .. hi - 1 -/
def putD (n : Nat) (ns : List Int) (lo hi x : Nat) : List Int := ns.mapIdx fun i v => if lo ≤ i ∧ i < hi then ((x / 2 ^ (n * (i - lo)) % 2 ^ n : Nat) : Int) else v
theorem putD_length (n : Nat) (ns : List Int) (lo hi x : Nat) : (putD n ns lo hi x).length = ns.length := List.length_mapIdx
theorem putD_one {n : Nat} {ns : List Int} {lo x : Nat} (hx : x < 2 ^ n) : putD n ns lo (lo + 1) x = ns.set lo x := by
  apply List.ext_getElem
  · simp [putD]
  · intro i h1 h2
    simp only [putD, List.getElem_mapIdx, List.getElem_set]
    by_cases e : lo = i
    · subst e
      simp [Nat.mod_eq_of_lt hx]
    · rw [if_neg (by omega), if_neg e]
theorem putD_two {n : Nat} {ns : List Int} {lo md hi x : Nat} (h1 : lo ≤ md) (h2 : md ≤ hi) :
    putD n (putD n ns lo md (x % 2 ^ ((md - lo) * n))) md hi (x / 2 ^ ((md - lo) * n)) = putD n ns lo hi x := by
  apply List.ext_getElem
  · simp [putD]
  · intro i g1 g2
    simp only [putD, List.getElem_mapIdx]
    by_cases e : md ≤ i
    · by_cases e2 : i < hi
      · rw [if_pos ⟨e, e2⟩, if_pos ⟨by omega, e2⟩, Nat.div_div_eq_div_mul, ← Nat.pow_add, Nat.mul_comm (md - lo) n, ← Nat.mul_add]
        rw [show md - lo + (i - md) = i - lo by omega]
      · rw [if_neg (by omega), if_neg (by omega), if_neg (by omega)]
    · rw [if_neg (by omega)]
      by_cases e2 : lo ≤ i
      · rw [if_pos ⟨e2, by omega⟩, if_pos ⟨e2, by omega⟩]
        congr 1
        have hk : (md - lo) * n = n * (i - lo) + (n + n * (md - i - 1)) := by
          have : md - lo = (i - lo) + (1 + (md - i - 1)) := by omega
          rw [this, Nat.add_mul, Nat.add_mul, Nat.one_mul, Nat.mul_comm (i - lo) n, Nat.mul_comm (md - i - 1) n]
        rw [hk, Nat.pow_add, Nat.mod_mul_right_div_self, Nat.pow_add, Nat.mod_mul_right_mod]
      · rw [if_neg (by omega), if_neg (by omega)]

theorem bitAnd_nat (x y : Nat) : Builtin.bitAnd (x : Int) (y : Int) = ((x &&& y : Nat) : Int) := by
  simp [Builtin.bitAnd]
theorem bitXor_hi (x s : Nat) : Builtin.bitXor (x : Int) (((x / 2 ^ s : Nat) : Int) * 2 ^ s) = ((x % 2 ^ s : Nat) : Int) := by
  have e : (((x / 2 ^ s : Nat) : Int) * 2 ^ s) = ((x / 2 ^ s * 2 ^ s : Nat) : Int) := by push_cast; rfl
  have e2 : x &&& (x / 2 ^ s * 2 ^ s) = x / 2 ^ s * 2 ^ s := by
    apply Nat.eq_of_testBit_eq
    intro i
    rw [Nat.testBit_and, ← Nat.shiftLeft_eq, ← Nat.shiftRight_eq_div_pow, Nat.testBit_shiftLeft, Nat.testBit_shiftRight]
    by_cases h : i < s
    · simp [h, Nat.not_le.mpr h]
    · have h' : s ≤ i := Nat.not_lt.mp h
      simp [h', Nat.add_sub_cancel' h']
  rw [e, bitXor_and, bitAnd_nat, e2]
  have := Nat.div_add_mod x (2 ^ s)
  rw [Nat.mul_comm] at this
  omega
theorem fdiv_pow (x s : Nat) : (x : Int).fdiv (2 ^ s) = ((x / 2 ^ s : Nat) : Int) := by
  have : ((2 : Int) ^ s) = ((2 ^ s : Nat) : Int) := by push_cast; rfl
  rw [this, Int.fdiv_eq_ediv_of_nonneg _ (Int.natCast_nonneg _), ← Int.natCast_ediv]
end
section
example : True := by w_top off; trivial
theorem inner7_ok (hK : PySem.Challenge.rw_pg0241_01 = PySem.Challenge.rw_pg0241_01 ∧ heapK = heapK) {w : World} {n : Nat} {tn : Tok}
  {D f cn ca ci c' : Addr} {doc pm ctv : Value} {e : Nat} {on oa oi : Obj} (nd : [D, f, cn, ca, ci].Nodup)
   (h1 : on.data = .cell (some (.int n tn))) (h2 : oa.data = .cell (some (.ref D))) (h3 : oi.data = .cell (some (.ref f))) (hn : 1 ≤ n) (hn8 : n ≤ 8) :
   ∀ (d : Nat) (A : Around) (R : Result → Shared → Prop) (s : Shared) (g : Heap) (x lo hi : Nat) (tx tl th : Tok) (vs : List Value) (ns : List Int),
   hi - lo ≤ d → lo < hi → hi ≤ ns.length → ns.length ≤ 64 → x < 2 ^ (n * (hi - lo)) → x < 2 ^ 60 → 
   Bs w g → Sub g s.heap → Rm A (d + 1) → 
   Own g s.heap [(D, listOf vs.toArray e), (f, inn7 doc pm cn ca ci c' ctv), (cn, on), (ca, oa), (ci, oi)] →
   IntsAre vs ns → s.heap.CodeRec (.ref c') "_int2digits.<locals>.inner" →
   (∀ h' t vs', IntsAre vs' (putD n ns lo hi x) → Keep [D, f, cn, ca, ci] s.heap h' → Own g h' [(D, listOf vs'.toArray e), (f, inn7 doc pm cn ca ci c' ctv), (cn, on), (ca, oa), (ci, oi)] → R (.ok (.ret .none)) ⟨h', s.gens, s.drawn, t, s.os⟩) →
   codeAny (model P0 w) A (.call (.ref f) ⟨[.int x tx, .int lo tl, .int hi th], []⟩) R s := by
  revert hK; k_fill; intro hK; clear hK
  intro d
  induction d with
  | zero => intros; omega
  | succ d ih =>
  intro A R s g x lo hi tx tl th vs ns hd0 hlo hhi hlen hx hx60 B hg hr O hits hcd hR
  refine enterW (k := d + 1) (binds := [("x", .int x tx), ("L", .int lo tl), ("R", .int hi th)]) B hg O (O _ (.tail _ (.head _))).1 rfl hcd hr (by exact BindsTo.of_eq rfl) (by exact locs rfl) (fun g₁ L h₁ tk gg kp gs fr fr2 hL hlt B₁ F N dA fA gA uA r => ?_)
  obtain ⟨p, loose, mean, mg, mb, T⟩ := B₁.T
  have X := B₁.X
  have hC48 := B₁.c48
  have hcd₁ : g₁.CodeRec (.ref c') "_int2digits.<locals>.inner" := coderec_keep hcd kp (fun b hb => by
    have q : ∀ p ∈ [(D, listOf vs.toArray e), (f, inn7 doc pm cn ca ci c' ctv), (cn, on), (ca, oa), (ci, oi)], ∀ us, p.2.data ≠ Data.fields us := by
      intro p hp us
      simp only [List.mem_cons, List.not_mem_nil, or_false] at hp
      rcases hp with rfl | rfl | rfl | rfl | rfl
      · nofun
      · nofun
      · rw [h1]; nofun
      · rw [h2]; nofun
      · rw [h3]; nofun
    obtain ⟨p, hp, rfl⟩ := List.mem_map.mp hb
    exact ⟨p.2, (O p hp).1, q p hp⟩)
  clear O
  by_cases hone : lo + 1 = hi
  · subst hone
    have hx' : x < 2 ^ n := by rwa [show lo + 1 - lo = 1 by omega, Nat.mul_one] at hx
    walk_at "stm"
    walk_at "stm"
    walk_at "stms"
    with_reducible rename Fr _ _ _ _ => F'
    with_reducible rename News _ _ _ _ => N'
    with_reducible rename IntsAre _ _ => hits'
    rw [Int.toNat_natCast, ← putD_one hx'] at hits'
    exact hR _ _ _ hits' (fun b hb o ho => F'.keep _ _ (kp b hb o ho)) (fun p hp => ⟨(N' p hp).1, gnone (gg) (N' p hp).2.2⟩)
  · have e_md : ((lo : Int) + (hi : Int)).fdiv (2 ^ Int.toNat 1) = (((lo + hi) / 2 : Nat) : Int) := by
      have := fdiv_pow (lo + hi) 1
      simpa using this
    generalize hmd : (lo + hi) / 2 = md at e_md
    have l1 : lo < md := by omega
    have l2 : md < hi := by omega
    have e_sh : ((md : Int) - (lo : Int)) * (n : Int) = (((md - lo) * n : Nat) : Int) := by
      rw [Int.natCast_mul, Int.natCast_sub (Nat.le_of_lt l1)]
    have b_sh : (md - lo) * n ≤ 1000 := Nat.le_trans (Nat.mul_le_mul (show md - lo ≤ 64 by omega) hn8) (by decide)
    generalize hsh : (md - lo) * n = sh at e_sh b_sh
    have e_up : (x : Int).fdiv (2 ^ Int.toNat (sh : Int)) = ((x / 2 ^ sh : Nat) : Int) := by rw [Int.toNat_natCast]; exact fdiv_pow x sh
    have b_up : x / 2 ^ sh < 2 ^ 60 := Nat.lt_of_le_of_lt (Nat.div_le_self _ _) hx60
    have e_lw : Builtin.bitXor (x : Int) (((x / 2 ^ sh : Nat) : Int) * 2 ^ Int.toNat (sh : Int)) = ((x % 2 ^ sh : Nat) : Int) := by rw [Int.toNat_natCast]; exact bitXor_hi x sh
    have b_lw : x % 2 ^ sh < 2 ^ 60 := Nat.lt_of_le_of_lt (Nat.mod_le _ _) hx60
    generalize hup : x / 2 ^ sh = up at e_up b_up e_lw
    generalize hlw : x % 2 ^ sh = lw at e_lw b_lw
    walk_at "stm"
    walk_at "stm"
    (with_reducible rename Fr _ _ _ _ => Fx); simp only [e_md] at Fx
    walk_at "stm"
    (with_reducible rename Fr _ _ _ _ => Fx); simp only [e_sh] at Fx
    walk_at "stm"
    (with_reducible rename Fr _ _ _ _ => Fx); simp only [e_up] at Fx
    walk_at "stm"
    (with_reducible rename Fr _ _ _ _ => Fx); simp only [e_lw] at Fx
    walk_at "stm"
    (with_reducible rename News _ _ _ _ => Nx)
    refine wpAny_call (ih _ _ _ g₁ lw lo md _ _ _ vs ns (by omega) l1 (by omega) hlen (by rw [← hlw, ← hsh, Nat.mul_comm n]; exact Nat.mod_lt _ (Nat.two_pow_pos _)) b_lw B₁ (Fr.keep (by assumption)) r (own_of_news Nx fun p hp => hp) hits (hcd₁.keeps (Fr.keep (by assumption))) (fun h2' t2 vs2 hits2 k2 O2 => ?_))
    obtain ⟨F2, N2⟩ := after_put [0, 1, 2, 3, 4] Fx Nx nd rfl rfl k2 O2 rfl rfl
    clear Fx Nx
    walk_at "stm"
    refine wpAny_call (ih _ _ _ g₁ up md hi _ _ _ vs2 _ (by omega) l2 (by rw [putD_length]; omega) (by rw [putD_length]; omega) (by
      rw [← hup, ← hsh]
      refine Nat.div_lt_of_lt_mul ?_
      rw [Nat.mul_comm (md - lo), ← Nat.pow_add, ← Nat.mul_add, show md - lo + (hi - md) = hi - lo by omega]
      exact hx) b_up B₁ (Fr.keep (by assumption)) r (own_of_news N2 fun p hp => hp) hits2 (hcd₁.keeps (Fr.keep (by assumption))) (fun h3' t3 vs3 hits3 k3 O3 => ?_))
    with_reducible rename Fr _ _ _ _ => Fy
    obtain ⟨F3, N3⟩ := after_put [0, 1, 2, 3, 4] Fy N2 nd rfl rfl k3 O3 rfl rfl
    clear Fy N2
    walk_at "stms"
    rw [← hlw, ← hup, ← hsh, putD_two (by omega) (by omega)] at hits3
    exact hR _ _ _ hits3 (fun b hb o ho => F3.keep _ _ (kp b hb o ho)) (fun p hp => ⟨(O3 p hp).1, gnone gg (O3 p hp).2⟩)
end
section
example : True := by w_top off; trivial
theorem rep_arr {x : Value} : ∀ k : Nat, List.foldl (fun x1 x2 => x1 ++ x2) #[] (List.replicate k #[x]) = (List.replicate k x).toArray := by
  have key : ∀ (k : Nat) (acc : Array Value), List.foldl (fun x1 x2 => x1 ++ x2) acc (List.replicate k #[x]) = acc ++ (List.replicate k x).toArray := by
    intro k
    induction k with
    | zero => intro acc; simp
    | succ k ih =>
      intro acc
      rw [List.replicate_succ, List.foldl_cons, ih, List.replicate_succ]
      apply Array.toList_inj.mp
      simp
  intro k
  rw [key]
  apply Array.toList_inj.mp
  simp
theorem ints_rep (t : Tok) : ∀ k : Nat, IntsAre (List.replicate k (.int 0 t)) (List.replicate k 0)
  | 0 => .nil
  | k + 1 => .cons 0 t (ints_rep t k)
/-- how many digits to the base 2^n -/
def nD (a n : Nat) : Nat := (Builtin.Int.intBits (a : Int) + n - 1) / n
def digs (a n : Nat) : List Int := putD n (List.replicate (nD a n) 0) 0 (nD a n) a
theorem bits_le59 {a : Nat} (h : a < 2 ^ 59) : Builtin.Int.intBits (a : Int) ≤ 59 := intBits_le_iff.mpr (by simpa using h)
theorem lt_bits (a : Nat) : a < 2 ^ Builtin.Int.intBits (a : Int) := by simpa using intBits_le_iff.mp (Nat.le_refl (Builtin.Int.intBits (a : Int)))
theorem nD_zero {n : Nat} (hn : 1 ≤ n) : nD 0 n = 0 := by
  unfold nD
  rw [show Builtin.Int.intBits ((0 : Nat) : Int) = 0 by decide]
  exact Nat.div_eq_of_lt (by omega)
theorem lt_nD {a n : Nat} (hn : 1 ≤ n) : a < 2 ^ (n * nD a n) := by
  refine Nat.lt_of_lt_of_le (lt_bits a) (Nat.pow_le_pow_right (by decide) ?_)
  unfold nD
  have := Nat.div_add_mod (Builtin.Int.intBits (a : Int) + n - 1) n
  have := Nat.mod_lt (Builtin.Int.intBits (a : Int) + n - 1) (show 0 < n by omega)
  omega
theorem nD_pos {a n : Nat} (ha : a ≠ 0) (hn : 1 ≤ n) : 0 < nD a n := by
  refine Nat.pos_of_ne_zero fun e => ?_
  have := lt_nD (a := a) hn
  rw [e, Nat.mul_zero] at this
  omega
theorem digs_zero {n : Nat} (hn : 1 ≤ n) : digs 0 n = [] := by
  have e : (digs 0 n).length = 0 := by rw [digs, putD_length, List.length_replicate, nD_zero hn]
  exact List.eq_nil_of_length_eq_zero e
theorem nd_c3 {f D l ci ca cn : Addr} {r : List Addr} (h : (f :: D :: l :: ci :: ca :: cn :: r).Nodup) : [D, f, cn, ca, ci].Nodup := by
  simp only [List.nodup_cons, List.mem_cons, not_or] at h ⊢
  grind
theorem size_ints {vs : List Value} {ns : List Int} (h : IntsAre vs ns) : vs.toArray.size = ns.length := by rw [List.size_toArray]; exact h.length
theorem int2digits_ok (hK : PySem.Challenge.rw_pg0241_01 = PySem.Challenge.rw_pg0241_01 ∧ heapK = heapK) {w : World} {A : Around} {R : Result → Shared → Prop} {s : Shared} {g : Heap} {a n : Nat} {ta tn : Tok} {G : List (Addr × Obj)}
  (B : Bs w g) (hg : Sub g s.heap) (hr : Rm A 70) (O : Own g s.heap G) (TG : TabSt 48 73 4 "_int2digits.<locals>.inner" G) (nd : (ads G).Nodup) (hn : 1 ≤ n) (hn8 : n ≤ 8) (ha : a < 2 ^ 59)
  (hR : ∀ h' t D vs G', IntsAre vs (digs a n) → Keep (ads G) s.heap h' → Own g h' ((D, listOf vs.toArray 0) :: G') → TabSt 48 73 4 "_int2digits.<locals>.inner" G' → (∀ p ∈ (D, listOf vs.toArray 0) :: G', p.1 ∈ ads G ∨ s.heap.get? p.1 = none) → (ads ((D, listOf vs.toArray 0) :: G')).Nodup → R (.ok (.ret (.ref D))) ⟨h', s.gens, s.drawn, t, s.os⟩) :
  codeAny (model P0 w) A (.call (.ref 53) ⟨[.int a ta, .int n tn], []⟩) R s := by
  revert hK; k_fill; intro hK; clear hK
  refine enterC (k := 69) [("a", .int a ta), ("n", .int n tn)] (fun y => if y = "a" then some (.int a ta) else none) (fun y => if y = "n" then some (.int n tn) else none) B hg O nd (by k_is) (by k_is) hr (by exact BindsTo.of_eq rfl) rfl (by decide +kernel) (fun _ => rfl) (fun _ => rfl) (fun g₁ L h₁ tk cells gg kp gs fr fr2 hL hLs B₁ F N Y nd dA fA gA uA r => ?_)
  obtain ⟨p, loose, mean, mg, mb, T⟩ := B₁.T
  have X := B₁.X
  have hC48 := B₁.c48
  obtain ⟨o1, o2, o3, rfl, d1, d2, d3⟩ := Y.three
  clear Y
  simp only [List.cons_append, List.nil_append, List.map_cons] at N nd
  replace d1 : o1.data = .cell none := d1
  replace d2 : o2.data = .cell none := d2
  replace d3 : o3.data = .cell (some (.int n tn)) := d3
  have b59 := bits_le59 ha
  have e_k : ((Builtin.Int.intBits (a : Int) : Int) + (n : Int) - 1).fdiv (n : Int) = (nD a n : Int) := by
    unfold nD
    rw [Int.fdiv_eq_ediv_of_nonneg _ (by omega), Int.natCast_ediv]
    congr 1
    omega
  have b_k : nD a n ≤ 59 := by
    unfold nD
    refine Nat.le_trans (Nat.div_le_div_right (c := n) (show Builtin.Int.intBits (a : Int) + n - 1 ≤ 58 + n by omega)) ?_
    rw [Nat.add_div_right _ (by omega)]
    have := Nat.div_le_self 58 n
    omega
  have hlt := lt_nD (a := a) hn
  have hz : a = 0 → nD a n = 0 := fun e => e ▸ nD_zero hn
  have hpz : a ≠ 0 → 0 < nD a n := fun e => nD_pos e hn
  have hdg : digs a n = putD n (List.replicate (nD a n) 0) 0 (nD a n) a := rfl
  generalize hk : nD a n = k at e_k b_k hlt hz hpz hdg
  walk_at "stm"
  with_reducible rename Nat => n1
  with_reducible rename IntsAre _ _ => hits
  (with_reducible rename News _ _ _ _ => Nx)
  simp only [e_k, Int.toNat_natCast, List.flatten_replicate_singleton] at hits Nx
  have hsz := size_ints hits
  rw [List.length_replicate] at hsz
  walk_at "stm"
  with_reducible rename Obj.data _ = Data.cell (some (.ref _)) => da
  refine nestDef_K rfl rfl rfl ?_
  with_reducible rename Fr _ _ _ _ => Fx
  with_reducible rename List.Nodup _ => ndx
  with_reducible rename News _ _ _ _ => Nx
  refine mkDef (pre := [_, _, _, _, _]) Fx Nx ndx T hC48 rfl TG rfl ?_
  clear Fx Nx ndx
  intro f c' oc vsc tc ctv doc G' h3 tk3 F3 N3 nd3 TG3 hmem hdc hvc
  simp only [List.cons_append, List.nil_append, List.map_cons] at N3 nd3
  change TabSt 48 73 4 "_int2digits.<locals>.inner" G' at TG3
  change vsc[1]? = some (.str "_int2digits.<locals>.inner" tc) at hvc
  change News g₁ L h3 ((f, inn7 doc ((mg "__name__").getD .none) (L + 1) (L + 1 + 1) (L + 1 + 1 + 1) c' ctv) :: _) at N3
  walk_at "stm"
  with_reducible rename Obj.data _ = Data.cell (some (.ref f)) => df
  with_reducible rename News _ _ _ _ => Nx
  by_cases ha0 : a = 0
  · have k0 : k = 0 := hz ha0
    subst k0
    walk_at "stm"
    walk_at "stms"
    with_reducible rename Fr _ _ _ _ => Fy
    have e1 : digs a n = [] := by rw [ha0]; exact digs_zero hn
    have hits' : IntsAre (List.replicate 0 (Value.int 0 0)) (digs a n) := by rw [e1]; exact .nil
    have own' := own_of_news Nx (own := (_, listOf (List.replicate 0 (Value.int 0 0)).toArray 0) :: G') (fun p hp => (List.mem_cons.mp hp).elim (fun e => e ▸ .tail _ (.head _)) fun hp => .tail _ (.tail _ (.tail _ (.tail _ (.tail _ (.tail _ hp))))))
    refine hR _ _ _ _ G' hits' (fun b hb o ho => Fy.keep _ _ (kp b hb o ho)) (fun p hp => ⟨(own' p hp).1, gnone gg (own' p hp).2⟩) TG3 (fun p hp => ?_) ?_
    · by_cases q : p.1 ∈ ads G
      · exact .inl q
      · exact .inr (fr2 _ (own' p hp).2 q)
    · exact ((List.Sublist.refl (ads G')).cons _ |>.cons _ |>.cons _ |>.cons _ |>.cons_cons _ |>.cons _).nodup nd3
  · have kp0 : 0 < k := hpz ha0
    walk_at "stm"
    walk_at "stm"
    with_reducible rename Fr _ _ _ _ => Fy
    have own0 := own_of_news Nx (own := (_, listOf (List.replicate k (.int 0 _)).toArray 0) :: G') (fun p hp => (List.mem_cons.mp hp).elim (fun e => e ▸ .tail _ (.head _)) fun hp => .tail _ (.tail _ (.tail _ (.tail _ (.tail _ (.tail _ hp))))))
    refine wpAny_call (inner7_ok ⟨rfl, rfl⟩ (doc := doc) (pm := (mg "__name__").getD .none) (ctv := ctv) (e := 0) (nd_c3 nd3) d3 da (by assumption) hn hn8 60 _ _ _ g₁ a 0 k _ _ _ _ _ (by omega) kp0 (by rw [List.length_replicate]; exact Nat.le_refl _) (by rw [List.length_replicate]; omega) hlt (by omega) B₁ Fy.keep (r.less (by omega)) (own_of_news Nx fun p hp => ?_) hits ⟨c', oc, vsc, tc, rfl, (own0 (c', oc) (.tail _ hmem)).1, hdc, hvc⟩ (fun h4 t4 vs4 hits4 k4 O4 => ?_))
    · simp only [List.mem_cons, List.not_mem_nil, or_false] at hp ⊢
      grind
    obtain ⟨F4, N4⟩ := after_put [1, 0, 5, 4, 3] Fy Nx nd3 rfl rfl k4 O4 rfl rfl
    clear Fy Nx own0
    walk_at "stms"
    with_reducible rename Fr _ _ _ _ => Fy
    rw [← hdg] at hits4
    have own' := own_of_news (own := (_, listOf vs4.toArray 0) :: G') N4 (fun p hp => (List.mem_cons.mp hp).elim (fun e => e ▸ .tail _ (.head _)) fun hp => .tail _ (.tail _ (.tail _ (.tail _ (.tail _ (.tail _ hp))))))
    refine hR _ _ _ _ G' hits4 (fun b hb o ho => Fy.keep _ _ (kp b hb o ho)) (fun p hp => ⟨(own' p hp).1, gnone gg (own' p hp).2⟩) TG3 (fun p hp => ?_) ?_
    · by_cases q : p.1 ∈ ads G
      · exact .inl q
      · exact .inr (fr2 _ (own' p hp).2 q)
    · exact ((List.Sublist.refl (ads G')).cons _ |>.cons _ |>.cons _ |>.cons _ |>.cons_cons _ |>.cons _).nodup nd3
end
section
example : True := by w_top off; trivial
def in8 : Stmt := stmtAt 8 0
def inn8 (doc pm : Value) (cn cd ci : Addr) (c' : Addr) (ctv : Value) : Obj :=
  fnMade "inner" "_digits2int.<locals>.inner" (defParams in8) (defBody in8) (defScope in8) [("n", cn), ("inner", ci), ("digits", cd)] doc pm c' ctv
/-- the number that the digits tell, the lowest first -/
def gD (n : Nat) : List Nat → Nat
  | [] => 0
  | d :: ds => d + 2 ^ n * gD n ds
theorem gD_app (n : Nat) : ∀ x y : List Nat, gD n (x ++ y) = gD n x + 2 ^ (x.length * n) * gD n y
  | [], y => by simp [gD]
  | d :: x, y => by
    rw [List.cons_append, gD, gD, gD_app n x y, List.length_cons, Nat.add_mul, Nat.one_mul, Nat.pow_add, Nat.mul_add, Nat.add_assoc, Nat.mul_comm (2 ^ (x.length * n)) (2 ^ n), Nat.mul_assoc]
theorem gD_lt (n : Nat) : ∀ x : List Nat, (∀ d ∈ x, d < 2 ^ n) → gD n x < 2 ^ (x.length * n)
  | [], _ => by simp [gD]
  | d :: x, h => by
    have h1 := h d (.head _)
    have h2 := gD_lt n x fun d hd => h d (.tail _ hd)
    rw [gD, List.length_cons, Nat.add_mul, Nat.one_mul, Nat.pow_add, Nat.mul_comm (2 ^ (x.length * n))]
    calc d + 2 ^ n * gD n x < 2 ^ n + 2 ^ n * gD n x := by omega
      _ = 2 ^ n * (gD n x + 1) := by rw [Nat.mul_add, Nat.mul_one, Nat.add_comm]
      _ ≤ 2 ^ n * 2 ^ (x.length * n) := Nat.mul_le_mul_left _ h2
def seg (ms : List Nat) (lo hi : Nat) : List Nat := (ms.drop lo).take (hi - lo)
theorem seg_length {ms : List Nat} {lo hi : Nat} (h : hi ≤ ms.length) : (seg ms lo hi).length = hi - lo := by
  rw [seg, List.length_take, List.length_drop]; omega
theorem seg_two {ms : List Nat} {lo md hi : Nat} (h1 : lo ≤ md) (h2 : md ≤ hi) : seg ms lo md ++ seg ms md hi = seg ms lo hi := by
  rw [seg, seg, seg, show hi - lo = (md - lo) + (hi - md) by omega, List.take_add, List.drop_drop, show lo + (md - lo) = md by omega]
theorem seg_mem {ms : List Nat} {lo hi d : Nat} (h : d ∈ seg ms lo hi) : d ∈ ms := List.mem_of_mem_drop (List.mem_of_mem_take h)
theorem gD_seg_lt {n : Nat} {ms : List Nat} {lo hi : Nat} (hm : ∀ d ∈ ms, d < 2 ^ n) (h : hi ≤ ms.length) (h60 : n * ms.length ≤ 60) : gD n (seg ms lo hi) < 2 ^ 60 := by
  refine Nat.lt_of_lt_of_le (gD_lt n _ fun d hd => hm d (seg_mem hd)) (Nat.pow_le_pow_right (by decide) (Nat.le_trans ?_ h60))
  rw [seg_length h, Nat.mul_comm]
  exact Nat.mul_le_mul_left _ (by omega)
theorem gD_seg {n : Nat} {ms : List Nat} {lo md hi : Nat} (h1 : lo ≤ md) (h2 : md ≤ hi) (h : hi ≤ ms.length) : gD n (seg ms md hi) * 2 ^ ((md - lo) * n) + gD n (seg ms lo md) = gD n (seg ms lo hi) := by
  rw [← seg_two h1 h2, gD_app, seg_length (by omega), Nat.mul_comm, Nat.add_comm]
theorem seg_one {n : Nat} {ms : List Nat} {lo : Nat} (h : lo < ms.length) : (ms.map (Nat.cast : Nat → Int)).getD ((lo : Int)).toNat 0 = ((gD n (seg ms lo (lo + 1)) : Nat) : Int) := by
  rw [seg, List.drop_eq_getElem_cons h, show lo + 1 - lo = 1 by omega, List.take_succ_cons, List.take_zero, gD, gD, Nat.mul_zero, Nat.add_zero, Int.toNat_natCast, List.getD_eq_getElem?_getD, List.getElem?_map, List.getElem?_eq_getElem h]
  rfl
theorem inner8_ok (hK : PySem.Challenge.rw_pg0241_01 = PySem.Challenge.rw_pg0241_01 ∧ heapK = heapK) {w : World} {n : Nat} {tn : Tok}
  {D f cn ci cd c' : Addr} {doc pm ctv : Value} {e : Nat} {on oi od : Obj} {vs : List Value} {ms : List Nat} (nd : [D, f, cn, cd, ci].Nodup)
   (h1 : on.data = .cell (some (.int n tn))) (h2 : od.data = .cell (some (.ref D))) (h3 : oi.data = .cell (some (.ref f))) (hn : 1 ≤ n) (hn8 : n ≤ 8) (hms : ∀ d ∈ ms, d < 2 ^ n) (h60 : n * ms.length ≤ 60) (hits : IntsAre vs (ms.map (Nat.cast : Nat → Int))) :
   ∀ (d : Nat) (A : Around) (R : Result → Shared → Prop) (s : Shared) (g : Heap) (lo hi : Nat) (tl th : Tok),
   hi - lo ≤ d → lo < hi → hi ≤ ms.length → 
   Bs w g → Sub g s.heap → Rm A (d + 1) → 
   Own g s.heap [(D, listOf vs.toArray e), (f, inn8 doc pm cn cd ci c' ctv), (cn, on), (cd, od), (ci, oi)] →
   s.heap.CodeRec (.ref c') "_digits2int.<locals>.inner" →
   (∀ h' t tv, Sub s.heap h' → R (.ok (.ret (.int (gD n (seg ms lo hi) : Nat) tv))) ⟨h', s.gens, s.drawn, t, s.os⟩) →
   codeAny (model P0 w) A (.call (.ref f) ⟨[.int lo tl, .int hi th], []⟩) R s := by
  revert hK; k_fill; intro hK; clear hK
  intro d
  induction d with
  | zero => intros; omega
  | succ d ih =>
  intro A R s g lo hi tl th hd0 hlo hhi B hg hr O hcd hR
  refine enterW (k := d + 1) (binds := [("L", .int lo tl), ("R", .int hi th)]) B hg O (O _ (.tail _ (.head _))).1 rfl hcd hr (by exact BindsTo.of_eq rfl) (by exact locs rfl) (fun g₁ L h₁ tk gg kp gs fr fr2 hL hlt B₁ F N dA fA gA uA r => ?_)
  obtain ⟨p, loose, mean, mg, mb, T⟩ := B₁.T
  have X := B₁.X
  have hC55 := B₁.c55
  have hcd₁ : g₁.CodeRec (.ref c') "_digits2int.<locals>.inner" := coderec_keep hcd kp (fun b hb => by
    have q : ∀ p ∈ [(D, listOf vs.toArray e), (f, inn8 doc pm cn cd ci c' ctv), (cn, on), (cd, od), (ci, oi)], ∀ us, p.2.data ≠ Data.fields us := by
      intro p hp us
      simp only [List.mem_cons, List.not_mem_nil, or_false] at hp
      rcases hp with rfl | rfl | rfl | rfl | rfl
      · nofun
      · nofun
      · rw [h1]; nofun
      · rw [h2]; nofun
      · rw [h3]; nofun
    obtain ⟨p, hp, rfl⟩ := List.mem_map.mp hb
    exact ⟨p.2, (O p hp).1, q p hp⟩)
  have fin : ∀ {h' : Heap} {L : Addr} {m}, Fr g₁ L h' m → News g₁ L h' [(D, listOf vs.toArray e), (f, inn8 doc pm cn cd ci c' ctv), (cn, on), (cd, od), (ci, oi)] → Sub s.heap h' := fun F' N' b o ho => by
    by_cases q : b ∈ ads [(D, listOf vs.toArray e), (f, inn8 doc pm cn cd ci c' ctv), (cn, on), (cd, od), (ci, oi)]
    · obtain ⟨p, hp, rfl⟩ := List.mem_map.mp q
      rw [(O p hp).1] at ho; cases ho
      exact (N' p hp).1
    · exact F'.keep _ _ (kp b o q ho)
  have l64 : ms.length ≤ 60 := Nat.le_trans (Nat.le_mul_of_pos_left _ hn) h60
  by_cases hone : lo + 1 = hi
  · subst hone
    walk_at "stm"
    walk_at "stms"
    with_reducible rename Fr _ _ _ _ => Fy
    rw [seg_one (n := n) hhi]
    exact hR _ _ _ (fin Fy (by assumption))
  · have e_md : ((lo : Int) + (hi : Int)).fdiv (2 ^ Int.toNat 1) = (((lo + hi) / 2 : Nat) : Int) := by
      have := fdiv_pow (lo + hi) 1
      simpa using this
    generalize hmd : (lo + hi) / 2 = md at e_md
    have l1 : lo < md := by omega
    have l2 : md < hi := by omega
    have e_sh : ((md : Int) - (lo : Int)) * (n : Int) = (((md - lo) * n : Nat) : Int) := by
      rw [Int.natCast_mul, Int.natCast_sub (Nat.le_of_lt l1)]
    have b_sh : (md - lo) * n ≤ 1000 := Nat.le_trans (Nat.mul_le_mul (show md - lo ≤ 64 by omega) hn8) (by decide)
    have e_v := gD_seg (n := n) (Nat.le_of_lt l1) (Nat.le_of_lt l2) hhi
    have b_v := gD_seg_lt (n := n) (lo := md) hms hhi h60
    have b_w := gD_seg_lt (n := n) (lo := lo) (hi := md) hms (by omega) h60
    generalize hsh : (md - lo) * n = sh at e_sh b_sh e_v
    walk_at "stm"
    walk_at "stm"
    (with_reducible rename Fr _ _ _ _ => Fx); simp only [e_md] at Fx
    walk_at "stm"
    (with_reducible rename Fr _ _ _ _ => Fx); simp only [e_sh] at Fx
    walk_at "stm"
    with_reducible rename Fr _ _ _ _ => Fy
    with_reducible rename News _ _ _ _ => Nx
    refine wpAny_call (ih _ _ _ g₁ md hi _ _ (by omega) l2 hhi B₁ Fy.keep r (own_of_news Nx fun p hp => hp) (hcd₁.keeps Fy.keep) (fun h2' t2 tv2 k2 => ?_))
    have F2 := Fr.subs Fy k2
    have N2 := News.subs Nx k2
    clear Fy Nx
    generalize hv1 : gD n (seg ms md hi) = v1 at e_v b_v
    walk_at "stm"
    with_reducible rename Fr _ _ _ _ => Fy
    with_reducible rename News _ _ _ _ => Nx
    refine wpAny_call (ih _ _ _ g₁ lo md _ _ (by omega) l1 (by omega) B₁ Fy.keep r (own_of_news Nx fun p hp => hp) (hcd₁.keeps Fy.keep) (fun h3' t3 tv3 k3 => ?_))
    have F3 := Fr.subs Fy k3
    have N3 := News.subs Nx k3
    clear Fy Nx
    generalize hv2 : gD n (seg ms lo md) = v2 at e_v b_w
    walk_at "stms"
    with_reducible rename Fr _ _ _ _ => Fy
    rw [Int.toNat_natCast, show ((v1 : Int) * 2 ^ sh + (v2 : Int)) = ((v1 * 2 ^ sh + v2 : Nat) : Int) by push_cast; rfl, e_v]
    exact hR _ _ _ (fin Fy (by assumption))
end
section
example : True := by w_top off; trivial
theorem nd_c4 {f D ci cn cd : Addr} {r : List Addr} (h : (f :: ci :: cn :: cd :: D :: r).Nodup) : [D, f, cn, cd, ci].Nodup := by
  simp only [List.nodup_cons, List.mem_cons, not_or] at h ⊢
  grind
theorem digits2int_ok (hK : PySem.Challenge.rw_pg0241_01 = PySem.Challenge.rw_pg0241_01 ∧ heapK = heapK) {w : World} {A : Around} {R : Result → Shared → Prop} {s : Shared} {g : Heap} {n : Nat} {tn : Tok} {D : Addr} {vs : List Value} {ms : List Nat} {e : Nat} {G : List (Addr × Obj)}
  (B : Bs w g) (hg : Sub g s.heap) (hr : Rm A 70) (O : Own g s.heap ((D, listOf vs.toArray e) :: G)) (TG : TabSt 55 88 4 "_digits2int.<locals>.inner" G) (nd : (D :: ads G).Nodup) (hits : IntsAre vs (ms.map (Nat.cast : Nat → Int))) (hn : 1 ≤ n) (hn8 : n ≤ 8) (hms : ∀ d ∈ ms, d < 2 ^ n) (h60 : n * ms.length ≤ 60)
  (hR : ∀ h' t tv G', Keep (ads G) s.heap h' → Own g h' ((D, listOf vs.toArray e) :: G') → TabSt 55 88 4 "_digits2int.<locals>.inner" G' → (∀ p ∈ G', p.1 ∈ ads G ∨ s.heap.get? p.1 = none) → (ads ((D, listOf vs.toArray e) :: G')).Nodup → R (.ok (.ret (.int (gD n ms : Nat) tv))) ⟨h', s.gens, s.drawn, t, s.os⟩) :
  codeAny (model P0 w) A (.call (.ref 60) ⟨[.ref D, .int n tn], []⟩) R s := by
  revert hK; k_fill; intro hK; clear hK
  refine enterC (k := 69) [("digits", .ref D), ("n", .int n tn)] (fun y => none) (fun y => if y = "n" then some (.int n tn) else if y = "digits" then some (.ref D) else none) B hg O nd (by k_is) (by k_is) hr (by exact BindsTo.of_eq rfl) rfl (by decide +kernel) (fun _ => rfl) (fun _ => rfl) (fun g₁ L h₁ tk cells gg kp gs fr fr2 hL hLs B₁ F N Y nd dA fA gA uA r => ?_)
  obtain ⟨p, loose, mean, mg, mb, T⟩ := B₁.T
  have X := B₁.X
  have hC55 := B₁.c55
  obtain ⟨o1, o2, o3, rfl, d1, d2, d3⟩ := Y.three
  clear Y
  simp only [List.cons_append, List.nil_append, List.map_cons] at N nd
  (repeat ((with_reducible show wpAny _ _ (execs _ _) _ _ _); walk1))
  refine nestDef_K rfl rfl rfl ?_
  refine mkDef (pre := [_, _, _, _]) F N nd T hC55 rfl TG rfl ?_
  clear F N nd
  intro f c' oc vsc tc ctv doc G' h3 tk3 F3 N3 nd3 TG3 hmem hdc hvc
  simp only [List.cons_append, List.nil_append, List.map_cons] at N3 nd3
  change TabSt 55 88 4 "_digits2int.<locals>.inner" G' at TG3
  change vsc[1]? = some (.str "_digits2int.<locals>.inner" tc) at hvc
  change News g₁ L h3 ((f, inn8 doc ((mg "__name__").getD .none) (L + 1 + 1) (L + 1) (L + 1 + 1 + 1) c' ctv) :: _) at N3
  have l64 : ms.length ≤ 60 := Nat.le_trans (Nat.le_mul_of_pos_left _ hn) h60
  have hsz := size_ints hits
  rw [List.length_map] at hsz
  walk_at "stm"
  with_reducible rename Obj.data _ = Data.cell (some (.ref f)) => df
  with_reducible rename News _ _ _ _ => Nx
  have fin : ∀ {h' : Heap} {L : Addr} {m} {x : List (Addr × Obj)}, Fr g₁ L h' m → News g₁ L h' (x ++ (D, listOf vs.toArray e) :: G') → (f :: (L + 1 + 1 + 1) :: (L + 1 + 1) :: (L + 1) :: D :: List.map (fun x => x.fst) G').Nodup → Keep (ads G) s.heap h' ∧ Own g h' ((D, listOf vs.toArray e) :: G') ∧ (∀ p ∈ G', p.1 ∈ ads G ∨ s.heap.get? p.1 = none) ∧ (ads ((D, listOf vs.toArray e) :: G')).Nodup := fun {h'} {L} {m} {x} F' N' nd' => by
    have own' := own_of_news (own := (D, listOf vs.toArray e) :: G') N' (fun p hp => List.mem_append_right _ hp)
    have nd4 : (ads ((D, listOf vs.toArray e) :: G')).Nodup := ((List.Sublist.refl (ads ((D, listOf vs.toArray e) :: G'))).cons _ |>.cons _ |>.cons _ |>.cons _).nodup nd'
    refine ⟨fun b o hb ho => ?_, fun p hp => ⟨(own' p hp).1, gnone gg (own' p hp).2⟩, fun p hp => ?_, nd4⟩
    · by_cases q : b = D
      · subst q
        have := (O _ (.head _)).1
        rw [this] at ho; cases ho
        exact (own' _ (.head _)).1
      · exact F'.keep _ _ (kp b o (fun hm => (List.mem_cons.mp hm).elim q hb) ho)
    · by_cases q : p.1 ∈ ads G
      · exact .inl q
      · refine .inr (fr2 _ (own' p (.tail _ hp)).2 fun hm => (List.mem_cons.mp hm).elim (fun e => ?_) q)
        exact (List.nodup_cons.mp nd4).1 (e ▸ List.mem_map_of_mem hp)
  by_cases ha0 : ms = []
  · subst ha0
    walk_at "stms"
    with_reducible rename Fr _ _ _ _ => Fy
    obtain ⟨q1, q2, q3, q4⟩ := fin (x := [_, _, _, _]) Fy Nx (by assumption)
    exact hR _ _ _ G' q1 q2 TG3 q3 q4
  · have kp0 : 0 < ms.length := List.length_pos_iff.mpr ha0
    walk_at "stm"
    with_reducible rename Fr _ _ _ _ => Fy
    have own0 := own_of_news Nx (own := (_, listOf vs.toArray e) :: G') (fun p hp => .tail _ (.tail _ (.tail _ (.tail _ hp))))
    with_reducible rename List.Nodup _ => nd9
    refine wpAny_call (inner8_ok ⟨rfl, rfl⟩ (doc := doc) (pm := (mg "__name__").getD .none) (ctv := ctv) (e := e) (nd_c4 nd9) d2 d3 df hn hn8 hms h60 hits 60 _ _ _ g₁ 0 ms.length _ _ (by omega) kp0 (Nat.le_refl _) B₁ Fy.keep (r.less (by omega)) (own_of_news Nx fun p hp => ?_) ⟨c', oc, vsc, tc, rfl, (own0 (c', oc) (.tail _ hmem)).1, hdc, hvc⟩ (fun h4 t4 tv4 k4 => ?_))
    · simp only [List.mem_cons, List.not_mem_nil, or_false] at hp ⊢
      grind
    dsimp only
    have es : seg ms 0 ms.length = ms := by rw [seg, List.drop_zero, Nat.sub_zero, List.take_length]
    rw [es]
    obtain ⟨q1, q2, q3, q4⟩ := fin (x := [_, _, _, _]) (Fr.subs Fy k4) (News.subs Nx k4) nd9
    exact hR _ _ _ G' q1 q2 TG3 q3 q4
end
section
example : True := by w_top off; trivial
/-! the digits, plain -/
def dN (a n : Nat) : List Nat := (List.range (nD a n)).map fun i => a / 2 ^ (n * i) % 2 ^ n
theorem digs_dN (a n : Nat) : digs a n = (dN a n).map (Nat.cast : Nat → Int) := by
  apply List.ext_getElem
  · simp [digs, putD, dN]
  · intro i h1 h2
    have h3 : i < nD a n := by simpa [digs, putD] using h1
    simp [digs, putD, dN, h3]
theorem gD_range (a n : Nat) : ∀ k, gD n ((List.range k).map fun i => a / 2 ^ (n * i) % 2 ^ n) = a % 2 ^ (n * k)
  | 0 => by simp [gD, Nat.mod_one]
  | k + 1 => by
    rw [List.range_succ, List.map_append, gD_app, gD_range a n k, List.length_map, List.length_range, Nat.mul_comm k n, List.map_cons, List.map_nil, gD, gD, Nat.mul_zero, Nat.add_zero, Nat.mul_add, Nat.mul_one, Nat.pow_add, Nat.mod_mul]
theorem gD_dN {a n : Nat} (hn : 1 ≤ n) : gD n (dN a n) = a := by
  rw [dN, gD_range, Nat.mod_eq_of_lt (lt_nD hn)]
theorem dN_lt {a n d : Nat} (h : d ∈ dN a n) : d < 2 ^ n := by
  obtain ⟨i, _, rfl⟩ := List.mem_map.mp h
  exact Nat.mod_lt _ (Nat.two_pow_pos _)
theorem dN_length (a n : Nat) : (dN a n).length = nD a n := by simp [dN]
/-- Horner: the highest first -/
def hor (n : Nat) (l : List Nat) : Nat := l.foldl (fun v d => v * 2 ^ n + d) 0
theorem hor_snoc (n : Nat) (l : List Nat) (d : Nat) : hor n (l ++ [d]) = hor n l * 2 ^ n + d := by simp [hor, List.foldl_append]
theorem gD_hor (n : Nat) : ∀ l : List Nat, gD n l = hor n l.reverse
  | [] => rfl
  | d :: l => by rw [gD, gD_hor n l, List.reverse_cons, hor_snoc, Nat.mul_comm, Nat.add_comm]
theorem hor_rev (n : Nat) (l : List Nat) : hor n l = gD n l.reverse := by rw [gD_hor, List.reverse_reverse]
/-- one digit more: quotient and rest -/
theorem hor_step {n b V d : Nat} (hb : 0 < b) (Q : Nat) (hQ : Q = V / b) : Q * 2 ^ n + (V % b * 2 ^ n + d) / b = (V * 2 ^ n + d) / b ∧ (V % b * 2 ^ n + d) % b = (V * 2 ^ n + d) % b := by
  have e : V * 2 ^ n + d = b * (Q * 2 ^ n) + (V % b * 2 ^ n + d) := by
    have := Nat.div_add_mod V b
    rw [← hQ] at this
    calc V * 2 ^ n + d = (b * Q + V % b) * 2 ^ n + d := by rw [this]
      _ = _ := by rw [Nat.add_mul, Nat.mul_assoc, Nat.add_assoc]
  rw [e, Nat.mul_add_div hb, Nat.mul_add_mod]
  exact ⟨rfl, rfl⟩
theorem digit_lt {n b r d : Nat} (hb : 0 < b) (hr : r < b) (hd : d < 2 ^ n) : (r * 2 ^ n + d) / b < 2 ^ n := by
  rw [Nat.div_lt_iff_lt_mul hb]
  have : (r + 1) * 2 ^ n ≤ b * 2 ^ n := Nat.mul_le_mul_right _ hr
  rw [Nat.add_mul, Nat.one_mul] at this
  rw [Nat.mul_comm (2 ^ n) b]
  omega
theorem nD_mul {a n : Nat} (hn : 1 ≤ n) (hn8 : n ≤ 8) (ha : a < 2 ^ 52) : n * nD a n ≤ 60 := by
  have h := intBits_le_iff (m := 52) (x := (a : Int)) |>.mpr (by simpa using ha)
  unfold nD
  have := Nat.mul_div_le (Builtin.Int.intBits (a : Int) + n - 1) n
  omega
theorem ints_at {vs : List Value} {ns : List Int} (h : IntsAre vs ns) : ∀ {j : Nat} {v : Value}, vs[j]? = some v → ∃ n t, ns[j]? = some n ∧ v = .int n t := by
  induction h with
  | nil => intro j v e; simp at e
  | cons n t r ih =>
    intro j v e
    cases j with
    | zero => exact ⟨n, t, rfl, (Option.some.inj e).symm⟩
    | succ j => exact ih (j := j) e
theorem ints_nat_at {vs : List Value} {ms : List Nat} (h : IntsAre vs (ms.map (Nat.cast : Nat → Int))) {j : Nat} {v : Value} (e : vs[j]? = some v) : ∃ d t, ms[j]? = some d ∧ v = .int (d : Nat) t := by
  obtain ⟨n, t, e1, e2⟩ := ints_at h e
  rw [List.getElem?_map] at e1
  cases q : ms[j]? with
  | none => rw [q] at e1; cases e1
  | some d => rw [q] at e1; cases e1; exact ⟨d, t, rfl, e2⟩
theorem ints_app : ∀ {vs ws : List Value} {ns ms : List Int}, IntsAre vs ns → IntsAre ws ms → IntsAre (vs ++ ws) (ns ++ ms)
  | _, _, _, _, .nil, h => h
  | _, _, _, _, .cons n t r, h => .cons n t (ints_app r h)
theorem ints_snoc {vs : List Value} {ms : List Nat} {d : Nat} {t : Tok} (h : IntsAre vs (ms.map (Nat.cast : Nat → Int))) : IntsAre (vs ++ [.int (d : Nat) t]) ((ms ++ [d]).map (Nat.cast : Nat → Int)) := by
  rw [List.map_append]
  exact ints_app h (.cons _ _ .nil)
theorem ints_rev : ∀ {vs : List Value} {ns : List Int}, IntsAre vs ns → IntsAre vs.reverse ns.reverse
  | _, _, .nil => .nil
  | _, _, .cons n t r => by
    rw [List.reverse_cons, List.reverse_cons]
    exact ints_app (ints_rev r) (.cons _ _ .nil)
theorem take_snoc {l : List Nat} {i d : Nat} (h : l[i]? = some d) : l.take (i + 1) = l.take i ++ [d] := by
  rw [List.take_add_one, h]; rfl
theorem rev_at {l : List Nat} {i : Nat} (h : i < l.length) : l.reverse[i]? = l[l.length - 1 - i]? := List.getElem?_reverse h
end
section
example : True := by w_top off; trivial
abbrev JC5a (a : Nat) (b : Nat) (ta : Tok) (tb : Tok) (g₁ : Heap) (L : Addr) (n : Nat) (D : Addr) (vs : List Value) (G3 : List (Addr × Obj)) (Q : Addr) (I : Addr) : Nat → Heap → Prop := fun (i : Nat) (h : Heap) => Ex8 fun o xa xq tr tn' vq ec qs => And8 (Fr g₁ L h (fun y : Str => if y = "a_digit" then xa else if y = "q_digit" then xq else if y = "r" then some (.int (hor n ((dN a n).reverse.take i) % b : Nat) tr) else if y = "q_digits" then some (.ref Q) else if y = "a_digits" then some (.ref D) else if y = "n" then some (.int n tn') else if y = "b" then some (.int b tb) else if y = "a" then some (.int a ta) else none)) (News g₁ L h ((I, o) :: (Q, listOf vq.toArray ec) :: (D, listOf vs.toArray 0) :: G3)) (i ≤ vs.toArray.size) (h.IsRevIter I D ((vs.toArray.size : Int) - 1 - (i : Int))) (IntsAre vq (List.map (Nat.cast : Nat → Int) qs)) (hor n qs = hor n ((dN a n).reverse.take i) / b) ((∀ d ∈ qs, d < 2 ^ n)) (qs.length = i)
theorem divmod_pos_ok (hK : PySem.Challenge.rw_pg0241_01 = PySem.Challenge.rw_pg0241_01 ∧ heapK = heapK) {w : World} {A : Around} {R : Result → Shared → Prop} {s : Shared} {g : Heap} {a b : Nat} {ta tb : Tok} {G1 G2 : List (Addr × Obj)}
  (B : Bs w g) (hg : Sub g s.heap) (hr : Rm A 72) (O : Own g s.heap (G2 ++ G1)) (TG1 : TabSt 48 73 4 "_int2digits.<locals>.inner" G1) (TG2 : TabSt 55 88 4 "_digits2int.<locals>.inner" G2) (nd : (ads (G2 ++ G1)).Nodup) (ha : a < 2 ^ 52) (hb : 1 ≤ b) (hb8 : b < 2 ^ 8)
  (hR : ∀ h' t l tq tr G1' G2', Done g s.heap h' (G2 ++ G1) [(l, tupO [.int (a / b : Nat) tq, .int (a % b : Nat) tr])] (G2' ++ G1') → TabSt 48 73 4 "_int2digits.<locals>.inner" G1' → TabSt 55 88 4 "_digits2int.<locals>.inner" G2' → R (.ok (.ret (.ref l))) ⟨h', s.gens, s.drawn, t, s.os⟩) :
  codeAny (model P0 w) A (.call (.ref 67) ⟨[.int a ta, .int b tb], []⟩) R s := by
  revert hK; k_fill; intro hK; clear hK
  refine enterK (k := 71) (binds := [("a", .int a ta), ("b", .int b tb)]) B hg O (by k_is) (by k_is) hr (by exact BindsTo.of_eq rfl) (by exact locs rfl) (fun g₁ L h₁ tk gg kp gs fr fr2 hL hlt B₁ F N dA fA gA uA r => ?_)
  obtain ⟨p, loose, mean, mg, mb, T⟩ := B₁.T
  have X := B₁.X
  generalize hn : Builtin.Int.intBits (b : Int) = n
  have hn1 : 1 ≤ n := by
    refine Nat.pos_of_ne_zero fun e => ?_
    have := lt_bits b
    rw [hn, e] at this; omega
  have hn8 : n ≤ 8 := hn ▸ intBits_le_iff.mpr (by simpa using hb8)
  walk_at "stm"
  (with_reducible rename Fr _ _ _ _ => Fx); simp only [hn] at Fx
  walk_at "stm"
  refine wpAny_call (int2digits_ok ⟨rfl, rfl⟩ (n := n) (a := a) B₁ (Fr.keep (by assumption)) (r.less (by omega)) (G := G1) (own_of_news (by assumption) fun p hp => List.mem_append_right _ hp) TG1 (by
    rw [ads, List.map_append, List.nodup_append] at nd; exact nd.2.1) hn1 hn8 (by omega) (fun h2 t2 D vs G1' hits k2 O2 TG1' fr2' nd2 => ?_))
  with_reducible rename Fr _ _ _ _ => Fx
  with_reducible rename News _ _ _ _ => Nx
  obtain ⟨F2, N2, nd2⟩ := after_tail Fx Nx nd k2 O2 fr2' nd2
  clear Fx Nx
  replace N2 := news_perm N2 List.perm_middle
  replace nd2 := ads_perm nd2 List.perm_middle
  obtain ⟨G3, hG3⟩ : ∃ G3, G2 ++ G1' = G3 := ⟨_, rfl⟩
  rw [hG3] at N2 nd2
  rw [digs_dN] at hits
  walk_at "stm"
  walk_at "stm"
  walk_at "stm"
  with_reducible rename Addr => Q
  walk_at "stm"
  refine wpAny_For ?_
  walk_at "stm"
  with_reducible rename Addr => I
  with_reducible rename Fr _ _ _ _ => Fx
  with_reducible rename News _ _ _ _ => Nx
  with_reducible rename List.Nodup _ => ndx
  refine iterRev (items := vs.toArray) Nx ?_
  have hDI : D ≠ I := by
    simp only [List.map_cons, List.nodup_cons, List.mem_cons, not_or] at ndx
    grind
  have hlen : vs.toArray.size = (dN a n).length := by have := size_ints hits; rwa [List.length_map] at this
  refine forW (Walks.listRev r.hh I D hDI vs.toArray)
    (JC5a a b ta tb g₁ L n D vs G3 Q I)
    ?hJ ?h0 ?turn ?fin ?ht
  case ht => intro _; rfl
  case hJ =>
    rintro i h ⟨o, xa, xq, tr, tn', vq, ec, qs, F, N, hi, hit, _⟩
    exact ⟨hi, hit, News.isList N (.tail _ (.tail _ (.head _)))⟩
  case h0 =>
    refine' ⟨_, none, none, _, _, [], _, [], Fr.cg Fx ?e1, Nx, Nat.zero_le _, ⟨_, (Nx _ (.head _)).1, rfl, ?e2⟩, .nil, ?e3, (fun _ h => nomatch h), rfl⟩
    case e1 => walk_at "eqm"
    case e2 => simp [revObj]
    case e3 => simp [hor]
  case turn =>
    rintro i v h h' t hi hP ⟨o, xa, xq, tr, tn', vq, ec, qs, F, N, _, hit, hq, hQ, hlt, hql⟩ hk ⟨_, hit', _⟩
    obtain ⟨o', ho', hoc, hod⟩ := hit'
    obtain ⟨F, N⟩ := iter_turn F N ndx hk ho'
    have hlt2 : i < (dN a n).length := hlen ▸ hi
    obtain ⟨d, td, hd, rfl⟩ := ints_nat_at hits (j := (dN a n).length - 1 - i) (by rw [← hlen]; simpa using hP)
    have hrs : (dN a n).reverse[i]? = some d := (rev_at hlt2).trans hd
    have hdl : d < 2 ^ n := dN_lt (List.mem_of_getElem? hd)
    have b_r : hor n ((dN a n).reverse.take i) % b < b := Nat.mod_lt _ hb
    have hst := hor_step (n := n) (d := d) hb (hor n qs) hQ
    rw [← hor_snoc n ((dN a n).reverse.take i), ← take_snoc hrs, ← hor_snoc] at hst
    have hql2 := digit_lt hb b_r hdl
    have p256 : 2 ^ n ≤ 256 := Nat.pow_le_pow_right (by decide) hn8
    have b_t : hor n ((dN a n).reverse.take i) % b * 2 ^ n + d < 2 ^ 64 := by
      have := Nat.mul_le_mul (show hor n ((dN a n).reverse.take i) % b ≤ 256 by omega) p256
      omega
    generalize hrr : hor n ((dN a n).reverse.take i) % b = rr at F b_r hst hql2 b_t
    have e_t : (rr : Int) * 2 ^ Int.toNat (n : Int) + (d : Int) = ((rr * 2 ^ n + d : Nat) : Int) := by rw [Int.toNat_natCast]; push_cast; rfl
    dsimp only [At]
    walk_at "stm"
    walk_at "stm"
    rw [e_t]
    with_reducible rename Fr _ _ _ _ => Fy
    with_reducible rename News _ _ _ _ => Ny
    refine wpAny_call (div2n1n_ok ⟨rfl, rfl⟩ B₁ Fy.keep (r.less (by omega)) hb (by omega) b_t (fun h5 t5 l tq tr5 k5 hl5 ho5 => ?_))
    have F5 := Fr.subs Fy k5
    have N5 := News.add Fy (News.subs Ny k5) hl5 ho5
    have nd5 := nd_add (ad := _) ndx rfl Ny hl5
    clear Fy Ny
    dsimp only
    walk_at "stm"
    have hvq := size_ints hq
    rw [List.length_map, hql] at hvq
    have hi60 : i < 60 := by
      have := nD_mul (a := a) hn1 hn8 ha
      have := Nat.le_mul_of_pos_left (nD a n) hn1
      rw [dN_length] at hlt2
      omega
    walk_at "stms"
    with_reducible rename Fr _ _ _ _ => Fz
    with_reducible rename News _ _ _ _ => Nz
    rw [hst.2] at Fz
    rw [List.push_toArray] at Nz
    refine' ⟨_, _, rfl, o', some (.int d td), some (.int ((rr * 2 ^ n + d) / b : Nat) tq), tr5, tn', vq ++ [.int ((rr * 2 ^ n + d) / b : Nat) tq], _, qs ++ [(rr * 2 ^ n + d) / b], Fr.cg Fz ?e1, fun p hp => Nz p (.tail _ hp), by omega, ⟨o', (Nz _ (.tail _ (.head _))).1, hoc, hod⟩, ints_snoc hq, hst.1, ?e6, ?e7⟩
    case e1 => walk_at "eqm"
    case e6 =>
      intro x hx
      rcases List.mem_append.mp hx with hx | hx
      · exact hlt x hx
      · rw [List.mem_singleton.mp hx]; exact hql2
    case e7 => rw [List.length_append, hql]; rfl
  case fin =>
    rintro h h' t ⟨o, xa, xq, tr, tn', vq, ec, qs, F, N, _, hit, hq, hQ, hlt, hql⟩ hk
    obtain ⟨F, N⟩ := iter_end F N ndx hk
    replace ndx := ndt ndx
    have hA : hor n ((dN a n).reverse.take vs.toArray.size) = a := by
      rw [hlen, ← List.length_reverse, List.take_length, ← gD_hor, gD_dN hn1]
    rw [hA] at hQ F
    have hl60 : (dN a n).length ≤ 60 := by
      have := nD_mul (a := a) hn1 hn8 ha
      have := Nat.le_mul_of_pos_left (nD a n) hn1
      rw [dN_length]
      omega
    have hvq := size_ints hq
    rw [List.length_map, hql, hlen] at hvq
    clear Nx Fx
    dsimp only [At]
    walk_at "stm"
    refine reverse_K F N (upd_z ndx rfl) ?_ ?hz
    case hz => rw [hvq]; exact Nat.le_trans hl60 (by decide)
    intro h7 F7 N7
    clear F N
    subst hG3
    rw [List.reverse_toArray] at N7
    have hpm : ((Q, listOf vq.reverse.toArray ec) :: (D, listOf vs.toArray 0) :: (G2 ++ G1')).Perm ([(Q, listOf vq.reverse.toArray ec), (D, listOf vs.toArray 0)] ++ G1' ++ G2) := by
      refine .cons _ (.cons _ ?_)
      exact List.perm_append_comm
    have hits7 : IntsAre vq.reverse (qs.reverse.map (Nat.cast : Nat → Int)) := by rw [List.map_reverse]; exact ints_rev hq
    have hlq : n * qs.reverse.length ≤ 60 := by
      rw [List.length_reverse, hql, hlen, dN_length]
      exact nD_mul hn1 hn8 ha
    walk_at "stm"
    with_reducible rename Fr _ _ _ _ => Fy
    with_reducible rename News _ _ _ _ => Ny
    refine wpAny_call (digits2int_ok ⟨rfl, rfl⟩ (n := n) (D := Q) (vs := vq.reverse) (ms := qs.reverse) (G := G2) B₁ Fy.keep (r.less (by omega)) (own_of_news Ny fun p hp => (List.mem_cons.mp hp).elim (fun e => e ▸ .head _) fun hp => .tail _ (.tail _ (List.mem_append_left _ hp))) TG2 ?nd8 hits7 hn1 hn8 (fun x hx => hlt x (List.mem_reverse.mp hx)) hlq (fun h8 t8 tv G2' k8 O8 TG2' fr8 nd8 => ?_))
    case nd8 =>
      rw [List.map_cons, List.map_append] at ndx
      exact (((List.sublist_append_left (ads G2) (ads G1')).cons D).cons_cons Q).nodup ndx
    obtain ⟨F8, N8, nd9⟩ := after_tail Fy (news_perm Ny hpm) (ads_perm (x := (Q, listOf vq.reverse.toArray ec) :: (D, listOf vs.toArray 0) :: (G2 ++ G1')) ndx hpm) k8 (fun p hp => O8 p (.tail _ hp)) fr8 (ndt nd8)
    clear Fy Ny
    rw [← hor_rev, hQ]
    walk_at "stm"
    walk_at "stms"
    with_reducible rename Fr _ _ _ _ => Fz
    with_reducible rename News _ _ _ _ => Nz
    with_reducible rename List.Nodup _ => ndz
    refine hR _ _ _ tv tr G1' G2' (done_of gg kp fr2 Fz Nz (fun p hp => ?_) ?_) TG1' TG2'
    · simp only [List.cons_append, List.nil_append, List.mem_cons, List.mem_append] at hp ⊢
      grind
    · simp only [List.cons_append, List.nil_append, List.map_cons, List.map_append] at ndz
      have e := ((List.Perm.cons _ (.cons _ (.cons _ (List.perm_append_comm (l₁ := ads G1') (l₂ := ads G2'))))).nodup_iff).mp ndz
      rw [ads, List.cons_append, List.nil_append, List.map_cons, List.map_append]
      exact (((List.Sublist.refl _).cons _).cons _ |>.cons_cons _).nodup e
end
section
example : True := by w_top off; trivial
/-- the tables of the nested defs of the two digit functions -/
def Tabs (G : List (Addr × Obj)) : Prop := ∃ G1 G2, G = G2 ++ G1 ∧ TabSt 48 73 4 "_int2digits.<locals>.inner" G1 ∧ TabSt 55 88 4 "_digits2int.<locals>.inner" G2
theorem perm_tail {l : Addr × Obj} {G' : List (Addr × Obj)} : ∀ p ∈ [l] ++ G', p ∈ [l] ++ ([] ++ G') := fun p hp => hp
theorem int_divmod_ok0 (hK : PySem.Challenge.rw_pg0241_01 = PySem.Challenge.rw_pg0241_01 ∧ heapK = heapK) {w : World} {A : Around} {R : Result → Shared → Prop} {s : Shared} {g : Heap} {a b : Nat} {ta tb : Tok} {G : List (Addr × Obj)}
  (B : Bs w g) (hg : Sub g s.heap) (hr : Rm A 73) (O : Own g s.heap G) (TG : Tabs G) (nd : (ads G).Nodup) (ha : a < 2 ^ 52) (hb : 1 ≤ b) (hb8 : b < 2 ^ 8)
  (hR : ∀ h' t l tq tr G', Done g s.heap h' G [(l, tupO [.int (a / b : Nat) tq, .int (a % b : Nat) tr])] G' → Tabs G' → R (.ok (.ret (.ref l))) ⟨h', s.gens, s.drawn, t, s.os⟩) :
  codeAny (model P0 w) A (.call (.ref 74) ⟨[.int a ta, .int b tb], []⟩) R s := by
  revert hK; k_fill; intro hK; clear hK
  obtain ⟨G1, G2, rfl, TG1, TG2⟩ := TG
  refine enterK (k := 72) (binds := [("a", .int a ta), ("b", .int b tb)]) B hg O (by k_is) (by k_is) hr (by exact BindsTo.of_eq rfl) (by exact locs rfl) (fun g₁ L h₁ tk gg kp gs fr fr2 hL hlt B₁ F N dA fA gA uA r => ?_)
  obtain ⟨p, loose, mean, mg, mb, T⟩ := B₁.T
  have X := B₁.X
  walk_at "stms"
  with_reducible rename Fr _ _ _ _ => Fy
  with_reducible rename News _ _ _ _ => Ny
  refine wpAny_call (divmod_pos_ok ⟨rfl, rfl⟩ B₁ Fy.keep r (own_of_news Ny fun p hp => hp) TG1 TG2 nd ha hb hb8 (fun h5 t5 l tq tr G1' G2' D5 T1 T2 => ?_))
  obtain ⟨F6, N6, nd6⟩ := D5.after (pre := []) Fy Ny nd
  walk_at "stms"
  exact hR _ _ _ _ _ _ (done_of gg kp fr2 F6 N6 (fun p hp => hp) nd6) ⟨G1', G2', rfl, T1, T2⟩
theorem divmod_up {a b : Nat} (hb : 1 ≤ b) (ha : 1 ≤ a) : -(((a - 1) / b : Nat) : Int) - 1 = (-(a : Int)).fdiv b ∧ (b : Int) + (-(((a - 1) % b : Nat) : Int) - 1) = (-(a : Int)).fmod b := by
  have e := Nat.div_add_mod (a - 1) b
  have l := Nat.mod_lt (a - 1) (show b > 0 by omega)
  generalize (a - 1) / b = q at e
  generalize (a - 1) % b = r at e l
  have e2 : -(a : Int) = (b : Int) * (-(q : Int) - 1) + ((b : Int) + (-(r : Int) - 1)) := by
    have : (a : Int) = b * q + r + 1 := by
      have : a = b * q + r + 1 := by omega
      rw [this]; push_cast; rfl
    rw [this, Int.mul_sub, Int.mul_neg]
    omega
  have hbz : (b : Int) ≠ 0 := by omega
  have e3 : (-(a : Int)) / b = -(q : Int) - 1 := by
    rw [e2, Int.mul_comm, Int.add_comm, Int.add_mul_ediv_right _ _ hbz, Int.ediv_eq_zero_of_lt (by omega) (by omega), Int.zero_add]
  have e4 : (-(a : Int)) % b = (b : Int) + (-(r : Int) - 1) := by
    rw [e2, Int.add_comm, Int.add_mul_emod_self_left, Int.emod_eq_of_lt (by omega) (by omega)]
  rw [Int.fdiv_eq_ediv_of_nonneg _ (by omega), Int.fmod_eq_emod_of_nonneg _ (by omega), e3, e4]
  exact ⟨rfl, rfl⟩
theorem bitNot_eq (x : Int) : Builtin.bitNot x = -x - 1 := by unfold Builtin.bitNot; omega
theorem int_divmod_ok1 (hK : PySem.Challenge.rw_pg0241_01 = PySem.Challenge.rw_pg0241_01 ∧ heapK = heapK) {w : World} {A : Around} {R : Result → Shared → Prop} {s : Shared} {g : Heap} {a : Int} {b : Nat} {ta tb : Tok} {G : List (Addr × Obj)}
  (B : Bs w g) (hg : Sub g s.heap) (hr : Rm A 74) (O : Own g s.heap G) (TG : Tabs G) (nd : (ads G).Nodup) (ha : a < 2 ^ 51) (ha2 : -2 ^ 51 < a) (hb : 1 ≤ b) (hb8 : b < 2 ^ 8)
  (hR : ∀ h' t l tq tr G', Done g s.heap h' G [(l, tupO [.int (a.fdiv b) tq, .int (a.fmod b) tr])] G' → Tabs G' → R (.ok (.ret (.ref l))) ⟨h', s.gens, s.drawn, t, s.os⟩) :
  codeAny (model P0 w) A (.call (.ref 74) ⟨[.int a ta, .int b tb], []⟩) R s := by
  revert hK; k_fill; intro hK; clear hK
  by_cases hneg : a < 0
  · obtain ⟨n, rfl⟩ : ∃ n : Nat, a = -((n : Int)) := ⟨a.natAbs, by omega⟩
    refine enterK (k := 73) (binds := [("a", .int (-(n : Int)) ta), ("b", .int b tb)]) B hg O (by k_is) (by k_is) hr (by exact BindsTo.of_eq rfl) (by exact locs rfl) (fun g₁ L h₁ tk gg kp gs fr fr2 hL hlt B₁ F N dA fA gA uA r => ?_)
    obtain ⟨p, loose, mean, mg, mb, T⟩ := B₁.T
    have X := B₁.X
    walk_at "stms"
    have en : Builtin.bitNot (-(n : Int)) = ((n - 1 : Nat) : Int) := by rw [bitNot_eq]; omega
    rw [en]
    with_reducible rename Fr _ _ _ _ => Fy
    with_reducible rename News _ _ _ _ => Ny
    refine wpAny_call (int_divmod_ok0 ⟨rfl, rfl⟩ B₁ Fy.keep r (own_of_news Ny fun p hp => hp) TG nd (by omega) hb hb8 (fun h5 t5 l tq tr G' D5 TG' => ?_))
    obtain ⟨F6, N6, nd6⟩ := D5.after (pre := []) Fy Ny nd
    have ed := divmod_up (a := n) hb (by omega)
    have b1 := Nat.div_le_self (n - 1) b
    have b2 := Nat.mod_lt (n - 1) (show b > 0 by omega)
    clear Fy Ny
    generalize (n - 1) / b = q at *
    generalize (n - 1) % b = rr at *
    walk_at "stm"
    walk_at "stms"
    with_reducible rename Fr _ _ _ _ => Fz
    with_reducible rename News _ _ _ _ => Nz
    with_reducible rename List.Nodup _ => ndz
    rw [bitNot_eq, bitNot_eq, ed.1, ed.2] at Nz
    exact hR _ _ _ _ _ G' (done_of gg kp fr2 Fz Nz (fun p hp => (List.mem_cons.mp hp).elim (fun e => e ▸ .head _) fun hp => .tail _ (.tail _ hp)) (((List.Sublist.refl _).cons _ |>.cons_cons _).nodup ndz)) TG'
  · obtain ⟨n, rfl⟩ : ∃ n : Nat, a = (n : Int) := ⟨a.natAbs, by omega⟩
    refine int_divmod_ok0 ⟨rfl, rfl⟩ B hg (hr.less (by omega)) O TG nd (by omega) hb hb8 (fun h' t l tq tr G' D T => ?_)
    rw [← fdiv_nat, ← fmod_nat] at D
    exact hR _ _ _ _ _ _ D T
theorem int_divmod_ok (hK : PySem.Challenge.rw_pg0241_01 = PySem.Challenge.rw_pg0241_01 ∧ heapK = heapK) {w : World} {A : Around} {R : Result → Shared → Prop} {s : Shared} {g : Heap} {a b : Int} {ta tb : Tok} {G : List (Addr × Obj)}
  (B : Bs w g) (hg : Sub g s.heap) (hr : Rm A 75) (O : Own g s.heap G) (TG : Tabs G) (nd : (ads G).Nodup) (ha : a < 2 ^ 51) (ha2 : -2 ^ 51 < a) (hb : b ≠ 0) (hb8 : b < 2 ^ 8) (hb9 : -2 ^ 8 < b)
  (hR : ∀ h' t l tq tr G', Done g s.heap h' G [(l, tupO [.int (a.fdiv b) tq, .int (a.fmod b) tr])] G' → Tabs G' → R (.ok (.ret (.ref l))) ⟨h', s.gens, s.drawn, t, s.os⟩) :
  codeAny (model P0 w) A (.call (.ref 74) ⟨[.int a ta, .int b tb], []⟩) R s := by
  revert hK; k_fill; intro hK; clear hK
  by_cases hneg : b < 0
  · obtain ⟨n, rfl⟩ : ∃ n : Nat, b = -((n : Int)) := ⟨b.natAbs, by omega⟩
    refine enterK (k := 74) (binds := [("a", .int a ta), ("b", .int (-(n : Int)) tb)]) B hg O (by k_is) (by k_is) hr (by exact BindsTo.of_eq rfl) (by exact locs rfl) (fun g₁ L h₁ tk gg kp gs fr fr2 hL hlt B₁ F N dA fA gA uA r => ?_)
    obtain ⟨p, loose, mean, mg, mb, T⟩ := B₁.T
    have X := B₁.X
    walk_at "stms"
    rw [Int.neg_neg]
    with_reducible rename Fr _ _ _ _ => Fy
    with_reducible rename News _ _ _ _ => Ny
    refine wpAny_call (int_divmod_ok1 ⟨rfl, rfl⟩ B₁ Fy.keep r (own_of_news Ny fun p hp => hp) TG nd (by omega) (by omega) (by omega) (by omega) (fun h5 t5 l tq tr G' D5 TG' => ?_))
    obtain ⟨F6, N6, nd6⟩ := D5.after (pre := []) Fy Ny nd
    have e1 : (-a).fdiv (n : Int) = a.fdiv (-(n : Int)) := by rw [← Int.neg_fdiv_neg, Int.neg_neg]
    have e2 : -((-a).fmod (n : Int)) = a.fmod (-(n : Int)) := by
      have h1 := Int.fmod_add_mul_fdiv (-a) n
      have h2 := Int.fmod_add_mul_fdiv a (-(n : Int))
      rw [← e1, Int.neg_mul] at h2
      omega
    have b1 : (-a).fmod (n : Int) < n := Int.fmod_lt_of_pos _ (by omega)
    have b2 : 0 ≤ (-a).fmod (n : Int) := Int.fmod_nonneg_of_pos _ (by omega)
    replace nd6 : (l :: ads G').Nodup := nd6
    clear Fy Ny
    rw [e1] at N6
    generalize (-a).fmod (n : Int) = rr at *
    generalize a.fdiv (-(n : Int)) = q at *
    walk_at "stm"
    walk_at "stms"
    with_reducible rename Fr _ _ _ _ => Fz
    with_reducible rename News _ _ _ _ => Nz
    with_reducible rename List.Nodup _ => ndz
    rw [e2] at Nz
    exact hR _ _ _ _ _ G' (done_of gg kp fr2 Fz Nz (fun p hp => (List.mem_cons.mp hp).elim (fun e => e ▸ .head _) fun hp => .tail _ (.tail _ hp)) (((List.Sublist.refl _).cons _ |>.cons_cons _).nodup ndz)) TG'
  · obtain ⟨n, rfl⟩ : ∃ n : Nat, b = (n : Int) := ⟨b.natAbs, by omega⟩
    exact int_divmod_ok1 ⟨rfl, rfl⟩ B hg (hr.less (by omega)) O TG nd ha ha2 (by omega) (by omega) hR
end
section
example : True := by w_top off; trivial
/-- one round's step forth: how many of the first p stay -/
def fwd (p st : Nat) : Nat := p - p / st
def forthV (p : Nat) (st : List Nat) : Nat := st.foldl fwd p
theorem fwd_eq {p st : Nat} (h : 1 ≤ st) : -(((p : Int) * (1 - (st : Int))).fdiv (st : Int)) = ((fwd p st : Nat) : Int) := by
  have e := Nat.div_add_mod p st
  have l := Nat.mod_lt p (show st > 0 by omega)
  have le := Nat.div_le_self p st
  unfold fwd
  rw [Int.natCast_sub le]
  generalize p / st = q at *
  generalize p % st = r at *
  have e2 : (p : Int) * (1 - (st : Int)) = (r : Int) + (q - p) * (st : Int) := by
    have : (p : Int) = st * q + r := by rw [← e]; push_cast; rfl
    rw [Int.mul_sub, Int.sub_mul, Int.mul_one]
    have e3 : (q : Int) * st = st * q := Int.mul_comm _ _
    omega
  rw [Int.fdiv_eq_ediv_of_nonneg _ (by omega), e2, Int.add_mul_ediv_right _ _ (by omega), Int.ediv_eq_zero_of_lt (by omega) (by omega)]
  omega
theorem fwd_le (p st : Nat) : fwd p st ≤ p := Nat.sub_le _ _
theorem forthV_take {p i s : Nat} {st : List Nat} (h : st[i]? = some s) : forthV p (st.take (i + 1)) = fwd (forthV p (st.take i)) s := by
  rw [take_snoc h, forthV, List.foldl_append]; rfl
theorem forthV_le (p : Nat) : ∀ st : List Nat, forthV p st ≤ p := by
  intro st
  induction st generalizing p with
  | nil => exact Nat.le_refl _
  | cons s st ih => exact Nat.le_trans (ih (fwd p s)) (fwd_le p s)

abbrev JC7a (p0 : Nat) (D : Addr) (vs : List Value) (st : List Nat) (e : Nat) (g₁ : Heap) (L : Addr) (I : Addr) : Nat → Heap → Prop := fun (i : Nat) (h : Heap) => Ex4 fun o xs tp G' => And5 (Fr g₁ L h (fun y : Str => if y = "step" then xs else if y = "place" then some (.int (forthV p0 (st.take i) : Nat) tp) else if y = "steps" then some (.ref D) else none)) (News g₁ L h ((I, o) :: (D, listOf vs.toArray e) :: G')) ((I :: D :: ads G').Nodup) (h.IsListIter I D i) (Tabs G')
theorem law_forth_ok (hK : PySem.Challenge.rw_pg0241_01 = PySem.Challenge.rw_pg0241_01 ∧ heapK = heapK) {w : World} {A : Around} {R : Result → Shared → Prop} {s : Shared} {g : Heap} {p0 : Nat} {tp0 : Tok} {D : Addr} {vs : List Value} {st : List Nat} {e : Nat} {G : List (Addr × Obj)}
  (B : Bs w g) (hg : Sub g s.heap) (hr : Rm A 76) (O : Own g s.heap ((D, listOf vs.toArray e) :: G)) (TG : Tabs G) (nd : (D :: ads G).Nodup) (hits : IntsAre vs (st.map (Nat.cast : Nat → Int))) (hst : ∀ x ∈ st, 2 ≤ x ∧ x ≤ 4) (hp0 : p0 < 2 ^ 30)
  (hR : ∀ h' t tv G', Done g s.heap h' G [] G' → Tabs G' → R (.ok (.ret (.int (forthV p0 st : Nat) tv))) ⟨h', s.gens, s.drawn, t, s.os⟩) :
  codeAny (model P0 w) A (.call (.ref 142) ⟨[.int p0 tp0, .ref D], []⟩) R s := by
  revert hK; k_fill; intro hK; clear hK
  refine enterK (k := 75) (binds := [("place", .int p0 tp0), ("steps", .ref D)]) B hg O (by k_is) (by k_is) hr (by exact BindsTo.of_eq rfl) (by exact locs rfl) (fun g₁ L h₁ tk gg kp gs fr fr2 hL hlt B₁ F N dA fA gA uA r => ?_)
  obtain ⟨p, loose, mean, mg, mb, T⟩ := B₁.T
  have X := B₁.X
  walk_at "stm"
  refine wpAny_For ?_
  walk_at "stm"
  with_reducible rename Fr _ _ _ _ => Fx
  with_reducible rename News _ _ _ _ => Nx
  refine iterList Fx Nx (News.isList Nx (.head _)) (fun I h2 o0 F2 N2 l2 hit0 hl0 hDI => ?_)
  have nd2 : (I :: D :: ads G).Nodup := nd_cons nd rfl l2
  have hlen : vs.toArray.size = st.length := by have := size_ints hits; rwa [List.length_map] at this
  refine forW (Walks.list r.hh I D hDI vs.toArray)
    (JC7a p0 D vs st e g₁ L I)
    ?hJ ?h0 ?turn ?fin ?ht
  case ht => intro _; rfl
  case hJ =>
    rintro i h ⟨o, xs, tp, G', F, N, nd, hit, _⟩
    exact ⟨hit, News.isList N (.tail _ (.head _))⟩
  case h0 =>
    refine' ⟨o0, none, tp0, G, Fr.cg F2 ?e1, N2, nd2, hit0, TG⟩
    case e1 => walk_at "eqm"
  case turn =>
    rintro i v h h' t hi hP ⟨o, xs, tp, G', F, N, ndi, hit, TG'⟩ hk ⟨⟨o', ho', hoc, hod⟩, _⟩
    obtain ⟨F, N⟩ := iter_turn F N ndi hk ho'
    obtain ⟨d, td, hd, rfl⟩ := ints_nat_at hits (j := i) (by simpa using hP)
    have hsd := hst d (List.mem_of_getElem? hd)
    have hle := forthV_le p0 (st.take i)
    have hnx := forthV_take (p := p0) hd
    have hfe := fwd_eq (p := forthV p0 (st.take i)) (st := d) (by omega)
    rw [← hnx] at hfe
    generalize forthV p0 (st.take i) = q at F hle hfe
    have hm1 : (q : Int) * (1 - (d : Int)) ≤ 0 := by
      have : (q : Int) * (1 - (d : Int)) ≤ q * 0 := Int.mul_le_mul_of_nonneg_left (by omega) (by omega)
      simpa using this
    have hm2 : -((q : Int) * 3) ≤ (q : Int) * (1 - (d : Int)) := by
      have : (q : Int) * (-3) ≤ q * (1 - (d : Int)) := Int.mul_le_mul_of_nonneg_left (by omega) (by omega)
      omega
    dsimp only [At]
    walk_at "stm"
    walk_at "stms"
    with_reducible rename Fr _ _ _ _ => Fy
    with_reducible rename News _ _ _ _ => Ny
    refine wpAny_call (int_divmod_ok ⟨rfl, rfl⟩ B₁ Fy.keep r (own_of_news Ny fun p hp => .tail _ (.tail _ hp)) TG' (ndt (ndt ndi)) (by omega) (by omega) (by omega) (by omega) (by omega) (fun h5 t5 l tq tr G5 D5 TG5 => ?_))
    obtain ⟨F6, N6, nd6⟩ := D5.after (pre := [(I, o'), (D, listOf vs.toArray e)]) Fy Ny ndi
    replace nd6 : (l :: I :: D :: ads G5).Nodup := nd6
    clear Fy Ny
    walk_at "stms"
    with_reducible rename Fr _ _ _ _ => Fz
    with_reducible rename News _ _ _ _ => Nz
    rw [hfe] at Fz
    refine' ⟨_, _, rfl, o', some (.int (d : Nat) td), _, G5, Fr.cg Fz ?e1, fun p hp => Nz p (.tail _ hp), ndt nd6, ⟨o', (Nz _ (.tail _ (.head _))).1, hoc, hod⟩, TG5⟩
    case e1 => walk_at "eqm"
  case fin =>
    rintro h h' t ⟨o, xs, tp, G', F, N, ndi, hit, TG'⟩ hk
    obtain ⟨F, N⟩ := iter_end F N ndi hk
    rw [hlen, List.take_length] at F
    clear Fx Nx F2 N2
    dsimp only [At]
    walk_at "stm"
    walk_at "stms"
    with_reducible rename Fr _ _ _ _ => Fz
    with_reducible rename News _ _ _ _ => Nz
    exact hR _ _ _ G' (done_of2 (X := [(D, listOf vs.toArray e)]) gg kp fr2 (fun p hp => O p (List.mem_append_left _ hp)) Fz Nz (fun p hp => .tail _ hp) (fun p hp => List.mem_append_left _ hp) (ndt ndi)) TG'
end
section
example : True := by w_top off; trivial
/-- one round's step back -/
def bwd (p st : Nat) : Nat := p + (p - 1) / (st - 1)
def backV (p : Nat) (st : List Nat) : Nat := st.foldl bwd p
theorem bwd_eq {p st : Nat} (h : 2 ≤ st) (hp : 1 ≤ p) : -1 - (((p : Int) * (st : Int)).fdiv (1 - (st : Int))) = ((bwd p st : Nat) : Int) := by
  obtain ⟨k, rfl⟩ : ∃ k, st = k + 1 := ⟨st - 1, by omega⟩
  have e := Nat.div_add_mod (p - 1) k
  have l := Nat.mod_lt (p - 1) (show k > 0 by omega)
  unfold bwd
  rw [Nat.add_sub_cancel]
  generalize (p - 1) / k = q at *
  generalize (p - 1) % k = r at *
  have e1 : (1 : Int) - ((k + 1 : Nat) : Int) = -(k : Int) := by omega
  rw [e1, ← Int.neg_fdiv_neg, Int.neg_neg]
  have e2 : -((p : Int) * ((k + 1 : Nat) : Int)) = ((k : Int) - r - 1) + (-(p + q + 1 : Nat) : Int) * (k : Int) := by
    have : (p : Int) = k * q + r + 1 := by
      have : p = k * q + r + 1 := by omega
      rw [this]; push_cast; rfl
    have e3 : (k : Int) * q = q * k := Int.mul_comm _ _
    push_cast
    rw [Int.mul_add, Int.mul_one, Int.neg_mul, Int.add_mul, Int.add_mul, Int.one_mul]
    omega
  rw [Int.fdiv_eq_ediv_of_nonneg _ (by omega), e2, Int.add_mul_ediv_right _ _ (by omega), Int.ediv_eq_zero_of_lt (by omega) (by omega)]
  push_cast
  omega
theorem bwd_le (p st : Nat) : bwd p st ≤ p * 2 := by
  have := Nat.div_le_self (p - 1) (st - 1)
  unfold bwd; omega
theorem bwd_ge (p st : Nat) : p ≤ bwd p st := Nat.le_add_right _ _
theorem backV_take {p i s : Nat} {st : List Nat} (h : st[i]? = some s) : backV p (st.take (i + 1)) = bwd (backV p (st.take i)) s := by
  rw [take_snoc h, backV, List.foldl_append]; rfl
theorem backV_le (p : Nat) (st : List Nat) : backV p st ≤ p * 2 ^ st.length := by
  induction st generalizing p with
  | nil => simp [backV]
  | cons s st ih =>
    refine Nat.le_trans (ih (bwd p s)) ?_
    rw [List.length_cons, Nat.pow_succ, Nat.mul_comm (2 ^ st.length) 2, ← Nat.mul_assoc]
    exact Nat.mul_le_mul_right _ (bwd_le p s)
theorem backV_ge (p : Nat) (st : List Nat) : p ≤ backV p st := by
  induction st generalizing p with
  | nil => simp [backV]
  | cons s st ih => exact Nat.le_trans (bwd_ge p s) (ih (bwd p s))

abbrev JC8a (p0 : Nat) (D : Addr) (vs : List Value) (e : Nat) (g₁ : Heap) (L : Addr) (D2 : Addr) (ws : List Value) (sr : List Nat) (I : Addr) : Nat → Heap → Prop := fun (i : Nat) (h : Heap) => Ex4 fun o xs tp G' => And5 (Fr g₁ L h (fun y : Str => if y = "step" then xs else if y = "place" then some (.int (backV p0 (sr.take i) : Nat) tp) else if y = "steps" then some (.ref D) else none)) (News g₁ L h ((I, o) :: (D2, listOf ws.toArray 0) :: (D, listOf vs.toArray e) :: G')) ((I :: D2 :: D :: ads G').Nodup) (h.IsListIter I D2 i) (Tabs G')
theorem law_back_ok (hK : PySem.Challenge.rw_pg0241_01 = PySem.Challenge.rw_pg0241_01 ∧ heapK = heapK) {w : World} {A : Around} {R : Result → Shared → Prop} {s : Shared} {g : Heap} {p0 : Nat} {tp0 : Tok} {D : Addr} {vs : List Value} {st : List Nat} {e : Nat} {G : List (Addr × Obj)}
  (B : Bs w g) (hg : Sub g s.heap) (hr : Rm A 76) (O : Own g s.heap ((D, listOf vs.toArray e) :: G)) (TG : Tabs G) (nd : (D :: ads G).Nodup) (hits : IntsAre vs (st.map (Nat.cast : Nat → Int))) (hst : ∀ x ∈ st, 2 ≤ x ∧ x ≤ 4) (hl3 : st.length ≤ 3) (hp0 : p0 < 2 ^ 30) (hp1 : 1 ≤ p0)
  (hR : ∀ h' t tv G', Done g s.heap h' G [] G' → Tabs G' → R (.ok (.ret (.int (backV p0 st.reverse : Nat) tv))) ⟨h', s.gens, s.drawn, t, s.os⟩) :
  codeAny (model P0 w) A (.call (.ref 135) ⟨[.int p0 tp0, .ref D], []⟩) R s := by
  revert hK; k_fill; intro hK; clear hK
  refine enterK (k := 75) (binds := [("place", .int p0 tp0), ("steps", .ref D)]) B hg O (by k_is) (by k_is) hr (by exact BindsTo.of_eq rfl) (by exact locs rfl) (fun g₁ L h₁ tk gg kp gs fr fr2 hL hlt B₁ F N dA fA gA uA r => ?_)
  obtain ⟨p, loose, mean, mg, mb, T⟩ := B₁.T
  have X := B₁.X
  walk_at "stm"
  refine wpAny_For ?_
  walk_at "stm"
  with_reducible rename Fr _ _ _ _ => Fx
  with_reducible rename News _ _ _ _ => Nx
  with_reducible rename Addr => D2
  with_reducible rename IntsAre _ (List.reverse _) => hits2
  with_reducible rename List Value => ws
  with_reducible rename List.Nodup _ => ndx
  rw [← List.map_reverse] at hits2
  have hsr : ∀ x ∈ st.reverse, 2 ≤ x ∧ x ≤ 4 := fun x hx => hst x (List.mem_reverse.mp hx)
  have hlr : st.reverse.length ≤ 3 := by rw [List.length_reverse]; exact hl3
  generalize st.reverse = sr at *
  refine iterList Fx Nx (News.isList Nx (.head _)) (fun I h2 o0 F2 N2 l2 hit0 hl0 hDI => ?_)
  have nd2 : (I :: D2 :: D :: ads G).Nodup := nd_cons ndx rfl l2
  have hlen : ws.toArray.size = sr.length := by have := size_ints hits2; rwa [List.length_map] at this
  refine forW (Walks.list r.hh I D2 hDI ws.toArray)
    (JC8a p0 D vs e g₁ L D2 ws sr I)
    ?hJ ?h0 ?turn ?fin ?ht
  case ht => intro _; rfl
  case hJ =>
    rintro i h ⟨o, xs, tp, G', F, N, nd, hit, _⟩
    exact ⟨hit, News.isList N (.tail _ (.head _))⟩
  case h0 =>
    refine' ⟨o0, none, tp0, G, Fr.cg F2 ?e1, N2, nd2, hit0, TG⟩
    case e1 => walk_at "eqm"
  case turn =>
    rintro i v h h' t hi hP ⟨o, xs, tp, G', F, N, ndi, hit, TG'⟩ hk ⟨⟨o', ho', hoc, hod⟩, _⟩
    obtain ⟨F, N⟩ := iter_turn F N ndi hk ho'
    obtain ⟨d, td, hd, rfl⟩ := ints_nat_at hits2 (j := i) (by simpa using hP)
    have hsd := hsr d (List.mem_of_getElem? hd)
    have hle := backV_le p0 (sr.take i)
    have h8 : p0 * 2 ^ (sr.take i).length ≤ p0 * 2 ^ 3 := Nat.mul_le_mul_left _ (Nat.pow_le_pow_right (by decide) (by rw [List.length_take]; omega))
    replace hle := Nat.le_trans hle h8
    clear h8
    have hge := backV_ge p0 (sr.take i)
    have hnx := backV_take (p := p0) hd
    have hfe := bwd_eq (p := backV p0 (sr.take i)) (st := d) (by omega) (by omega)
    rw [← hnx] at hfe
    generalize backV p0 (sr.take i) = q at F hle hfe hge
    have hm1 : (q : Int) * (d : Int) ≤ (q : Int) * 4 := Int.mul_le_mul_of_nonneg_left (by omega) (by omega)
    have hm2 : (0 : Int) ≤ (q : Int) * (d : Int) := Int.mul_nonneg (by omega) (by omega)
    dsimp only [At]
    walk_at "stm"
    walk_at "stms"
    with_reducible rename Fr _ _ _ _ => Fy
    with_reducible rename News _ _ _ _ => Ny
    refine wpAny_call (int_divmod_ok ⟨rfl, rfl⟩ B₁ Fy.keep r (own_of_news Ny fun p hp => .tail _ (.tail _ (.tail _ hp))) TG' (ndt (ndt (ndt ndi))) (by omega) (by omega) (by omega) (by omega) (by omega) (fun h5 t5 l tq tr G5 D5 TG5 => ?_))
    obtain ⟨F6, N6, nd6⟩ := D5.after (pre := [(I, o'), (D2, listOf ws.toArray 0), (D, listOf vs.toArray e)]) Fy Ny ndi
    replace nd6 : (l :: I :: D2 :: D :: ads G5).Nodup := nd6
    clear Fy Ny
    walk_at "stms"
    with_reducible rename Fr _ _ _ _ => Fz
    with_reducible rename News _ _ _ _ => Nz
    rw [hfe] at Fz
    refine' ⟨_, _, rfl, o', some (.int (d : Nat) td), _, G5, Fr.cg Fz ?e1, fun p hp => Nz p (.tail _ hp), ndt nd6, ⟨o', (Nz _ (.tail _ (.head _))).1, hoc, hod⟩, TG5⟩
    case e1 => walk_at "eqm"
  case fin =>
    rintro h h' t ⟨o, xs, tp, G', F, N, ndi, hit, TG'⟩ hk
    obtain ⟨F, N⟩ := iter_end F N ndi hk
    rw [hlen, List.take_length] at F
    clear Fx Nx F2 N2
    dsimp only [At]
    walk_at "stm"
    walk_at "stms"
    with_reducible rename Fr _ _ _ _ => Fz
    with_reducible rename News _ _ _ _ => Nz
    exact hR _ _ _ G' (done_of2 (X := [(D, listOf vs.toArray e)]) gg kp fr2 (fun p hp => O p (List.mem_append_left _ hp)) Fz Nz (fun p hp => .tail _ (.tail _ hp)) (fun p hp => .tail _ (List.mem_append_left _ hp)) (ndt (ndt ndi))) TG'
end
section
example : True := by w_top off; trivial
abbrev JC9a (x : Int) (tx : Tok) (D : Addr) (vs : List Value) (ns : List Int) (e : Nat) (g₁ : Heap) (L : Addr) : Nat → Heap → Prop := fun (n : Nat) (h : Heap) => Ex5 fun (lo hi : Nat) (tlo thi : Tok) (xm : Option Value) => And7 (n = hi - lo) (lo ≤ hi) (hi ≤ ns.length) ((∀ i, i < lo → ns.getD i 0 < x)) ((∀ i, hi ≤ i → i < ns.length → x ≤ ns.getD i 0)) (Fr g₁ L h (fun y : Str => if y = "mid" then xm else if y = "lo" then some (.int lo tlo) else if y = "hi" then some (.int hi thi) else if y = "a" then some (.ref D) else if y = "x" then some (.int x tx) else if y = "key" then some .none else none)) (News g₁ L h [(D, listOf vs.toArray e)])
theorem bisect_left_ok (hK : PySem.Challenge.rw_pg0241_01 = PySem.Challenge.rw_pg0241_01 ∧ heapK = heapK) {w : World} {A : Around} {R : Result → Shared → Prop} {s : Shared} {g : Heap} {x : Int} {tx : Tok} {D : Addr} {vs : List Value} {ns : List Int} {e : Nat}
  (B : Bs w g) (hg : Sub g s.heap) (hr : Rm A 1) (O : Own g s.heap [(D, listOf vs.toArray e)]) (hits : IntsAre vs ns) (hl : ns.length ≤ 1000) (hmono : ∀ i j, i ≤ j → j < ns.length → ns.getD i 0 ≤ ns.getD j 0)
  (hR : ∀ h' t tr (q : Nat), Sub s.heap h' → q ≤ ns.length → (∀ i, i < q → ns.getD i 0 < x) → (∀ i, q ≤ i → i < ns.length → x ≤ ns.getD i 0) → R (.ok (.ret (.int q tr))) ⟨h', s.gens, s.drawn, t, s.os⟩) :
  codeAny (model P0 w) A (.call (.ref 32) ⟨[.ref D, .int x tx], []⟩) R s := by
  revert hK; k_fill; intro hK; clear hK
  refine enterK (k := 0) (binds := [("a", _), ("x", _), ("lo", .int 0 _), ("hi", _), ("key", _)]) B hg O (by k_is) (by k_is) hr (kp_binds (B.X.keeps hg) (fun S => rfl)) (by exact locs rfl) (fun g₁ L h₁ tk gg kp gs fr fr2 hL hlt B₁ F N dA fA gA uA r => ?_)
  obtain ⟨p, loose, mean, mg, mb, T⟩ := B₁.T
  have X := B₁.X
  walk_at "stm"
  walk_at "stm"
  walk_at "stm"
  walk_at "stm"
  walk_at "stm"
  refine wpAny_While ?_
  with_reducible rename Fr _ _ _ _ => Fx
  with_reducible rename News _ _ _ _ => Nx
  refine whileW (JC9a x tx D vs ns e g₁ L) ?turn ns.length ?h0
  case h0 =>
    refine' ⟨0, ns.length, _, _, none, by omega, by omega, by omega, by omega, by omega, Fr.cg Fx ?e1, Nx⟩
    case e1 => walk_at "eqm"
  case turn =>
    rintro n h t ⟨lo, hi, tlo, thi, xm, rfl, hlh, hhl, hb, ha, F, N⟩
    clear Fx Nx
    dsimp only [At]
    by_cases hlt2 : lo < hi
    · have emid : ((lo : Int) + (hi : Int)).fdiv 2 = (((lo + hi) / 2 : Nat) : Int) := by
        rw [Int.fdiv_eq_ediv_of_nonneg _ (by decide)]; omega
      generalize hmid : (lo + hi) / 2 = mid at emid
      have hm1 : lo ≤ mid := by omega
      have hm2 : mid < hi := by omega
      walk_at "stm"
      walk_at "stm"
      with_reducible rename Fr _ _ _ _ => Fx
      simp only [emid] at Fx
      by_cases hc : ns.getD ((mid : Int)).toNat 0 < x
      · walk_at "stm"
        walk_at "stms"
        with_reducible rename Fr _ _ _ _ => Fz
        with_reducible rename News _ _ _ _ => Nz
        refine' ⟨_, _, hi - (mid + 1), rfl, by omega, mid + 1, hi, _, _, some (.int (mid : Nat) _), rfl, by omega, hhl, fun i hi1 => ?b1, ha, Fr.cg Fz ?e1, Nz⟩
        case e1 => walk_at "eqm"
        case b1 => exact Int.lt_of_le_of_lt (hmono i mid (by omega) (by omega)) hc
      · walk_at "stm"
        walk_at "stms"
        with_reducible rename Fr _ _ _ _ => Fz
        with_reducible rename News _ _ _ _ => Nz
        refine' ⟨_, _, mid - lo, rfl, by omega, lo, mid, _, _, some (.int (mid : Nat) _), rfl, by omega, by omega, hb, fun i hi1 hi2 => ?b1, Fr.cg Fz ?e1, Nz⟩
        case e1 => walk_at "eqm"
        case b1 => exact Int.le_trans (Int.not_lt.mp hc) (hmono mid i hi1 hi2)
    · walk_at "stms"
      with_reducible rename Fr _ _ _ _ => Fz
      with_reducible rename News _ _ _ _ => Nz
      have eh : lo = hi := by omega
      subst eh
      exact hR _ _ _ lo (sub_of gg kp O Fz Nz) hhl hb ha
end
section
example : True := by w_top off; trivial
abbrev JC10a (x : Int) (tx : Tok) (D : Addr) (vs : List Value) (ns : List Int) (e : Nat) (g₁ : Heap) (L : Addr) : Nat → Heap → Prop := fun (n : Nat) (h : Heap) => Ex5 fun (lo hi : Nat) (tlo thi : Tok) (xm : Option Value) => And7 (n = hi - lo) (lo ≤ hi) (hi ≤ ns.length) ((∀ i, i < lo → ns.getD i 0 ≤ x)) ((∀ i, hi ≤ i → i < ns.length → x < ns.getD i 0)) (Fr g₁ L h (fun y : Str => if y = "mid" then xm else if y = "lo" then some (.int lo tlo) else if y = "hi" then some (.int hi thi) else if y = "a" then some (.ref D) else if y = "x" then some (.int x tx) else if y = "key" then some .none else none)) (News g₁ L h [(D, listOf vs.toArray e)])
theorem bisect_right_ok (hK : PySem.Challenge.rw_pg0241_01 = PySem.Challenge.rw_pg0241_01 ∧ heapK = heapK) {w : World} {A : Around} {R : Result → Shared → Prop} {s : Shared} {g : Heap} {x : Int} {tx : Tok} {D : Addr} {vs : List Value} {ns : List Int} {e : Nat}
  (B : Bs w g) (hg : Sub g s.heap) (hr : Rm A 1) (O : Own g s.heap [(D, listOf vs.toArray e)]) (hits : IntsAre vs ns) (hl : ns.length ≤ 1000) (hmono : ∀ i j, i ≤ j → j < ns.length → ns.getD i 0 ≤ ns.getD j 0)
  (hR : ∀ h' t tr (q : Nat), Sub s.heap h' → q ≤ ns.length → (∀ i, i < q → ns.getD i 0 ≤ x) → (∀ i, q ≤ i → i < ns.length → x < ns.getD i 0) → R (.ok (.ret (.int q tr))) ⟨h', s.gens, s.drawn, t, s.os⟩) :
  codeAny (model P0 w) A (.call (.ref 23) ⟨[.ref D, .int x tx], []⟩) R s := by
  revert hK; k_fill; intro hK; clear hK
  refine enterK (k := 0) (binds := [("a", _), ("x", _), ("lo", .int 0 _), ("hi", _), ("key", _)]) B hg O (by k_is) (by k_is) hr (kp_binds (B.X.keeps hg) (fun S => rfl)) (by exact locs rfl) (fun g₁ L h₁ tk gg kp gs fr fr2 hL hlt B₁ F N dA fA gA uA r => ?_)
  obtain ⟨p, loose, mean, mg, mb, T⟩ := B₁.T
  have X := B₁.X
  walk_at "stm"
  walk_at "stm"
  walk_at "stm"
  walk_at "stm"
  walk_at "stm"
  refine wpAny_While ?_
  with_reducible rename Fr _ _ _ _ => Fx
  with_reducible rename News _ _ _ _ => Nx
  refine whileW (JC10a x tx D vs ns e g₁ L) ?turn ns.length ?h0
  case h0 =>
    refine' ⟨0, ns.length, _, _, none, by omega, by omega, by omega, by omega, by omega, Fr.cg Fx ?e1, Nx⟩
    case e1 => walk_at "eqm"
  case turn =>
    rintro n h t ⟨lo, hi, tlo, thi, xm, rfl, hlh, hhl, hb, ha, F, N⟩
    clear Fx Nx
    dsimp only [At]
    by_cases hlt2 : lo < hi
    · have emid : ((lo : Int) + (hi : Int)).fdiv 2 = (((lo + hi) / 2 : Nat) : Int) := by
        rw [Int.fdiv_eq_ediv_of_nonneg _ (by decide)]; omega
      generalize hmid : (lo + hi) / 2 = mid at emid
      have hm1 : lo ≤ mid := by omega
      have hm2 : mid < hi := by omega
      walk_at "stm"
      walk_at "stm"
      with_reducible rename Fr _ _ _ _ => Fx
      simp only [emid] at Fx
      by_cases hc : x < ns.getD ((mid : Int)).toNat 0
      · walk_at "stm"
        walk_at "stms"
        with_reducible rename Fr _ _ _ _ => Fz
        with_reducible rename News _ _ _ _ => Nz
        refine' ⟨_, _, mid - lo, rfl, by omega, lo, mid, _, _, some (.int (mid : Nat) _), rfl, by omega, by omega, hb, fun i hi1 hi2 => ?b1, Fr.cg Fz ?e1, Nz⟩
        case e1 => walk_at "eqm"
        case b1 => exact Int.lt_of_lt_of_le hc (hmono mid i hi1 hi2)
      · walk_at "stm"
        walk_at "stms"
        with_reducible rename Fr _ _ _ _ => Fz
        with_reducible rename News _ _ _ _ => Nz
        refine' ⟨_, _, hi - (mid + 1), rfl, by omega, mid + 1, hi, _, _, some (.int (mid : Nat) _), rfl, by omega, hhl, fun i hi1 => ?b1, ha, Fr.cg Fz ?e1, Nz⟩
        case e1 => walk_at "eqm"
        case b1 => exact Int.le_trans (hmono i mid (by omega) (by omega)) (Int.not_lt.mp hc)
    · walk_at "stms"
      with_reducible rename Fr _ _ _ _ => Fz
      with_reducible rename News _ _ _ _ => Nz
      have eh : lo = hi := by omega
      subst eh
      exact hR _ _ _ lo (sub_of gg kp O Fz Nz) hhl hb ha
end
section
example : True := by w_top off; trivial
def asgVal : Stmt → Expr | .Assign _ v _ => v | _ => default
def lamArgs : Expr → Arguments | .Lambda a _ _ _ => a | _ => ⟨[], [], none, [], [], none, []⟩
def lamBody : Expr → Expr | .Lambda _ b _ _ => b | e => e
def lamScope : Expr → Scope | .Lambda _ _ s _ => s | _ => default
def lamRead : Expr := asgVal (stmtAt 14 1)
/-- the read function of a stream over the signs that the cell holds -/
def fnRead (cell : Addr) (pm : Value) (c2 : Addr) (ct : Value) : Obj := kla_obj "<lambda>" "_law_stream.<locals>.<lambda>" (lamArgs lamRead) (lamBody lamRead) (lamScope lamRead) [("signs", cell)] pm c2 ct
def lamStm : Expr := asgVal (stmtAt 14 0)
def fnStream (pm : Value) (c1 : Addr) (ct : Value) : Obj := kla_obj "<lambda>" "_law_stream.<locals>.<lambda>" (lamArgs lamStm) (lamBody lamStm) (lamScope lamStm) [] pm c1 ct
/-- the table of the two lambdas of _law_stream, filled -/
structure LamTab (c1 c2 : Addr) (o1 o2 : Obj) : Prop where
  d1 : ∃ vs t, o1.data = .fields vs ∧ vs[1]? = some (.str "_law_stream.<locals>.<lambda>" t)
  d2 : ∃ vs t, o2.data = .fields vs ∧ vs[1]? = some (.str "_law_stream.<locals>.<lambda>" t)
def lamG (c1 c2 : Addr) (o1 o2 : Obj) : List (Addr × Obj) := [(118, tabObj #[rawInt 163, rawInt 13, .ref c1, rawInt 164, rawInt 18, .ref c2]), (c1, o1), (c2, o2)]
/-- a stream object: a function with an attribute read, over a cell -/
structure Stm (S f1 d f2 cell : Addr) (fo od co : Obj) (c2 : Addr) (ro : Obj) : Prop where
  fc : fo.cls = .type "function"
  fd : fo.dict = some d
  ff : ∃ x, fo.data = .func x
  ns : NsO od (fun y => if y = "read" then some (.ref f2) else none)
  co : co.data = .cell (some (.ref S))
  ro : ∃ pm ct, ro = fnRead cell pm c2 ct

theorem nd_two {x y : Addr} {ad : List Addr} {news : List (Addr × Obj)} (nd : ad.Nodup) (ha : news.map (·.1) = ad) (h : ∀ p ∈ news, p.1 < x) (hxy : x < y) : (y :: x :: ad).Nodup := by
  refine List.nodup_cons.mpr ⟨fun hm => ?_, nd_cons nd ha h⟩
  rcases List.mem_cons.mp hm with e | hm
  · rw [e] at hxy; exact absurd hxy (Nat.lt_irrefl _)
  · rw [← ha] at hm
    obtain ⟨p, hp, e⟩ := List.mem_map.mp hm
    have := h p hp
    rw [e] at this
    exact absurd (Nat.lt_trans this hxy) (Nat.lt_irrefl _)

theorem law_stream_fresh (hK : PySem.Challenge.rw_pg0241_01 = PySem.Challenge.rw_pg0241_01 ∧ heapK = heapK) {w : World} {A : Around} {R : Result → Shared → Prop} {s : Shared} {g : Heap} {S : Addr} {G : List (Addr × Obj)}
  (B : Bs w g) (hg : Sub g s.heap) (hr : Rm A 3) (O : Own g s.heap [(118, tabObj #[])])
  (hR : ∀ h' t f1 d f2 cell fo od co c1 c2 o1 o2 ro, Stm S f1 d f2 cell fo od co c2 ro → LamTab c1 c2 o1 o2 → Done g s.heap h' [(118, tabObj #[])] [(f1, fo), (d, od), (f2, ro), (cell, co)] (lamG c1 c2 o1 o2) → R (.ok (.ret (.ref f1))) ⟨h', s.gens, s.drawn, t, s.os⟩) :
  codeAny (model P0 w) A (.call (.ref 123) ⟨[.ref S], []⟩) R s := by
  revert hK; k_fill; intro hK; clear hK
  refine enterC (k := 2) [("signs", .ref S)] (fun y => none) (fun y => if y = "signs" then some (.ref S) else none) B hg O (by simp) (by k_is) (by k_is) hr (by exact BindsTo.of_eq rfl) rfl (by decide +kernel) (fun _ => rfl) (fun _ => rfl) (fun g₁ L h₁ tk cells gg kp gs fr fr2 hL hLs B₁ F N Y nd dA fA gA uA r => ?_)
  obtain ⟨p, loose, mean, mg, mb, T⟩ := B₁.T
  have X := B₁.X
  have hC118 := B₁.c118
  obtain ⟨o1, rfl, d1⟩ := Y.one
  clear Y
  simp only [List.cons_append, List.nil_append, List.map_cons, List.map_nil] at N nd
  (repeat ((with_reducible show wpAny _ _ (execs _ _) _ _ _); walk1))
  walk1
  refine kla_eval rfl ?_
  with_reducible rename Fr _ _ _ _ => Fx
  with_reducible rename News _ _ _ _ => Nx
  refine kla_nest Fx Nx T hC118 rfl (updF_s nd rfl (updF_z (ndt nd) rfl)) True.intro rfl rfl ?_
  intro f1 c1 oc1 vs1 t1 ct1 h1 tk1 F1 N1 q1 q2 l1 l2
  clear Fx Nx
  have nd1 := nd_two nd rfl l1 l2
  clear nd
  walk_at "stm"
  (repeat ((with_reducible show wpAny _ _ (execs _ _) _ _ _); walk1))
  walk1
  refine kla_eval rfl ?_
  with_reducible rename Fr _ _ _ _ => Fx
  with_reducible rename News _ _ _ _ => Nx
  refine kla_nest Fx Nx T hC118 rfl (updF_s nd1 rfl (updF_s (ndt nd1) rfl (updF_s (ndt (ndt nd1)) rfl (updF_z (ndt (ndt (ndt nd1))) rfl)))) (by simp [TriplesOk, rawInt]) (by simp [codeAmong, rawInt]) rfl ?_
  intro f2 c2 oc2 vs2 t2 ct2 h2 tk2 F2 N2 q3 q4 l3 l4
  clear Fx Nx
  have nd2 := nd_two nd1 rfl l3 l4
  clear nd1
  change vs2[1]? = some (.str "_law_stream.<locals>.<lambda>" t2) at q4
  change vs1[1]? = some (.str "_law_stream.<locals>.<lambda>" t1) at q2
  with_reducible rename Fr _ _ _ _ => Fx
  with_reducible rename News _ _ _ _ => Nx
  change News g₁ L h2 [(f2, fnRead (L + 1) ((mg "__name__").getD .none) c2 ct2), (c2, oc2), (f1, fnStream ((mg "__name__").getD .none) c1 ct1), (c1, oc1), (L + 1, o1), (118, tabObj #[rawInt 163, rawInt 13, .ref c1, rawInt 164, rawInt 18, .ref c2])] at Nx
  walk_at "stm"
  refine fn_set_K Fx Nx (updF_s nd2 rfl (updF_s (ndt nd2) rfl (updF_z (ndt (ndt nd2)) rfl))) rfl rfl rfl ?_
  intro h3 tk3 d od F3 N3 hns hd3
  have nd3 := nd_add nd2 rfl Nx hd3
  clear Fx Nx
  walk_at "stm"
  walk_at "stms"
  with_reducible rename Fr _ _ _ _ => Fz
  with_reducible rename News _ _ _ _ => Nz
  refine hR _ _ f1 d f2 (L + 1) { fnStream ((mg "__name__").getD .none) c1 ct1 with dict := some d } od o1 c1 c2 oc1 oc2 (fnRead (L + 1) ((mg "__name__").getD .none) c2 ct2) ⟨rfl, rfl, ⟨_, rfl⟩, hns, d1, ⟨_, _, rfl⟩⟩ ⟨⟨_, _, q1, q2⟩, ⟨_, _, q3, q4⟩⟩ (done_of gg kp fr2 Fz Nz (fun p hp => ?_) ?_)
  · simp only [lamG, List.cons_append, List.nil_append, List.mem_cons, List.not_mem_nil, or_false] at hp ⊢
    grind
  · simp only [lamG, ads, List.cons_append, List.nil_append, List.map_cons, List.map_nil]
    simp only [List.nodup_cons, List.mem_cons, List.not_mem_nil, or_false, not_or] at nd3 ⊢
    grind
end
section
example : True := by w_top off; trivial
theorem law_stream_made (hK : PySem.Challenge.rw_pg0241_01 = PySem.Challenge.rw_pg0241_01 ∧ heapK = heapK) {w : World} {A : Around} {R : Result → Shared → Prop} {s : Shared} {g : Heap} {S : Addr} {G : List (Addr × Obj)}
  (B : Bs w g) (hg : Sub g s.heap) (hr : Rm A 3) {c1 c2 : Addr} {oc1 oc2 : Obj} (O : Own g s.heap (lamG c1 c2 oc1 oc2)) (TL : LamTab c1 c2 oc1 oc2) (ndG : (ads (lamG c1 c2 oc1 oc2)).Nodup)
  (hR : ∀ h' t f1 d f2 cell fo od co ro, Stm S f1 d f2 cell fo od co c2 ro → Done g s.heap h' (lamG c1 c2 oc1 oc2) [(f1, fo), (d, od), (f2, ro), (cell, co)] (lamG c1 c2 oc1 oc2) → R (.ok (.ret (.ref f1))) ⟨h', s.gens, s.drawn, t, s.os⟩) :
  codeAny (model P0 w) A (.call (.ref 123) ⟨[.ref S], []⟩) R s := by
  revert hK; k_fill; intro hK; clear hK
  refine enterC (k := 2) [("signs", .ref S)] (fun y => none) (fun y => if y = "signs" then some (.ref S) else none) B hg O ndG (by k_is) (by k_is) hr (by exact BindsTo.of_eq rfl) rfl (by decide +kernel) (fun _ => rfl) (fun _ => rfl) (fun g₁ L h₁ tk cells gg kp gs fr fr2 hL hLs B₁ F N Y nd dA fA gA uA r => ?_)
  obtain ⟨p, loose, mean, mg, mb, T⟩ := B₁.T
  have X := B₁.X
  have hC118 := B₁.c118
  obtain ⟨o1, rfl, d1⟩ := Y.one
  clear Y
  simp only [lamG, List.cons_append, List.nil_append, List.map_cons, List.map_nil] at N nd
  (repeat ((with_reducible show wpAny _ _ (execs _ _) _ _ _); walk1))
  walk1
  refine kla_eval rfl ?_
  with_reducible rename Fr _ _ _ _ => Fx
  with_reducible rename News _ _ _ _ => Nx
  refine kla_hit (c' := c1) Fx Nx T hC118 rfl (.tail _ (.head _)) (by simp [TriplesOk, rawInt]) (by simp [codeAmong, rawInt]) rfl ?_
  intro f1 ct1 h1 tk1 F1 N1 l1
  clear Fx Nx
  have nd1 := nd_cons nd rfl l1
  clear nd
  walk_at "stm"
  (repeat ((with_reducible show wpAny _ _ (execs _ _) _ _ _); walk1))
  walk1
  refine kla_eval rfl ?_
  with_reducible rename Fr _ _ _ _ => Fx
  with_reducible rename News _ _ _ _ => Nx
  refine kla_hit (c' := c2) Fx Nx T hC118 rfl (.tail _ (.tail _ (.head _))) (by simp [TriplesOk, rawInt]) (by simp [codeAmong, rawInt]) rfl ?_
  intro f2 ct2 h2 tk2 F2 N2 l3
  clear Fx Nx
  have nd2 := nd_cons nd1 rfl l3
  clear nd1
  with_reducible rename Fr _ _ _ _ => Fx
  with_reducible rename News _ _ _ _ => Nx
  change News g₁ L h2 [(f2, fnRead (L + 1) ((mg "__name__").getD .none) c2 ct2), (f1, fnStream ((mg "__name__").getD .none) c1 ct1), (L + 1, o1), (118, tabObj #[rawInt 163, rawInt 13, .ref c1, rawInt 164, rawInt 18, .ref c2]), (c1, oc1), (c2, oc2)] at Nx
  walk_at "stm"
  refine fn_set_K Fx Nx (updF_s nd2 rfl (updF_z (ndt nd2) rfl)) rfl rfl rfl ?_
  intro h3 tk3 d od F3 N3 hns hd3
  have nd3 := nd_add nd2 rfl Nx hd3
  clear Fx Nx
  walk_at "stm"
  walk_at "stms"
  with_reducible rename Fr _ _ _ _ => Fz
  with_reducible rename News _ _ _ _ => Nz
  refine hR _ _ f1 d f2 (L + 1) { fnStream ((mg "__name__").getD .none) c1 ct1 with dict := some d } od o1 (fnRead (L + 1) ((mg "__name__").getD .none) c2 ct2) ⟨rfl, rfl, ⟨_, rfl⟩, hns, d1, ⟨_, _, rfl⟩⟩ (done_of gg kp fr2 Fz Nz (fun p hp => ?_) ?_)
  · simp only [lamG, List.cons_append, List.nil_append, List.mem_cons, List.not_mem_nil, or_false] at hp ⊢
    grind
  · simp only [lamG, ads, List.cons_append, List.nil_append, List.map_cons, List.map_nil]
    simp only [List.nodup_cons, List.mem_cons, List.not_mem_nil, or_false, not_or] at nd3 ⊢
    grind
end
section
example : True := by w_top off; trivial
theorem read_ok (hK : PySem.Challenge.rw_pg0241_01 = PySem.Challenge.rw_pg0241_01 ∧ heapK = heapK) {w : World} {A : Around} {R : Result → Shared → Prop} {s : Shared} {g : Heap} {S f2 cell c2 : Addr} {co : Obj} {pm ct : Value} {vs : List Value} {e n : Nat} {ti : Tok}
  (B : Bs w g) (hg : Sub g s.heap) (hr : Rm A 1) (O : Own g s.heap [(S, listOf vs.toArray e), (f2, fnRead cell pm c2 ct), (cell, co)]) (nd : [S, f2, cell].Nodup) (hco : co.data = .cell (some (.ref S))) (hcd : s.heap.CodeRec (.ref c2) "_law_stream.<locals>.<lambda>") (hl : vs.length < 1000)
  (hR : ∀ h' t us y e', (vs = [] ∧ us = [] ∧ ∃ ty, y = .str "" ty) ∨ vs = us ++ [y] → Keep [S, f2, cell] s.heap h' → Own g h' [(S, listOf us.toArray e'), (f2, fnRead cell pm c2 ct), (cell, co)] → R (.ok (.ret y)) ⟨h', s.gens, s.drawn, t, s.os⟩) :
  codeAny (model P0 w) A (.call (.ref f2) ⟨[.int n ti], []⟩) R s := by
  revert hK; k_fill; intro hK; clear hK
  refine enterL (k := 0) (binds := [("size", .int n ti)]) B hg O (O _ (.tail _ (.head _))).1 hcd hr (by rfl) (by exact locs rfl) (fun g₁ L h₁ tk gg kp gs fr fr2 hL hlt B₁ F N dA fA gA uA r => ?_)
  obtain ⟨p, loose, mean, mg, mb, T⟩ := B₁.T
  have X := B₁.X
  have hC118 := B₁.c118
  conv in (lamBody lamRead) => whnf
  rcases List.eq_nil_or_concat vs with rfl | ⟨us, y, rfl⟩
  · walk_at "stms"
    with_reducible rename Fr _ _ _ _ => Fz
    with_reducible rename News _ _ _ _ => Nz
    exact hR _ _ [] _ e (.inl ⟨rfl, rfl, _, rfl⟩) (fun b o hb ho => Fz.keep _ _ (kp b o hb ho)) (fun p hp => ⟨(Nz p hp).1, gnone gg (Nz p hp).2.2⟩)
  · rw [List.concat_eq_append] at *
    have hsz : (us ++ [y]).toArray.size = us.length + 1 := by simp
    walk_at "stms"
    · exfalso
      with_reducible rename List.isEmpty _ = true => hemp
      simp at hemp
    · with_reducible rename Fr _ _ _ _ => Fx
      with_reducible rename News _ _ _ _ => Nx
      refine pop_K Fx Nx (upd_z nd rfl) ?_ (by simp at hl; omega)
      intro h5 F5 N5
      exact hR _ _ us y _ (.inr rfl) (fun b o hb ho => F5.keep _ _ (kp b o hb ho)) (fun p hp => ⟨(N5 p hp).1, gnone gg (N5 p hp).2.2⟩)
end
section
example : True := by w_top off; trivial
/-- a lexer's own names -/
abbrev lexD (p : Params) (a1 a2 a3 a4 a5 : Tok) (n : Int) (tn : Tok) (fp P : Addr) : Obj :=
  dictOf [⟨PyData.keyHash p "lineno", .str "lineno" a1, .int n tn⟩, ⟨PyData.keyHash p "instream", .str "instream" a2, .ref fp⟩, ⟨PyData.keyHash p "whitespace", .str "whitespace" a3, .str "\n\t\r " a4⟩, ⟨PyData.keyHash p "pushback", .str "pushback" a5, .ref P⟩] 4
theorem init_ok (hK : PySem.Challenge.rw_pg0241_01 = PySem.Challenge.rw_pg0241_01 ∧ heapK = heapK) {w : World} {A : Around} {R : Result → Shared → Prop} {s : Shared} {g : Heap} {x dx fp : Addr}
  (B : Bs w g) (hg : Sub g s.heap) (hr : Rm A 1) (O : Own g s.heap [(x, instObj 112 dx), (dx, emptyDict)]) (nd : [x, dx].Nodup)
  (hR : ∀ h' t l a1 a2 a3 a4 a5 tn, Keep [x, dx] s.heap h' → Own g h' [(x, instObj 112 dx), (dx, lexD w.params a1 a2 a3 a4 a5 1 tn fp l), (l, listOf #[] 0)] → s.heap.get? l = none → [x, dx, l].Nodup → R (.ok (.ret .none)) ⟨h', s.gens, s.drawn, t, s.os⟩) :
  codeAny (model P0 w) A (.call (.ref 88) ⟨[.ref x, .ref fp], []⟩) R s := by
  revert hK; k_fill; intro hK; clear hK
  refine enterK (k := 0) (binds := [("self", .ref x), ("fp", .ref fp)]) B hg O (by k_is) (by k_is) hr (by exact BindsTo.of_eq rfl) (by exact locs rfl) (fun g₁ L h₁ tk gg kp gs fr fr2 hL hlt B₁ F N dA fA gA uA r => ?_)
  obtain ⟨p, loose, mean, mg, mb, T⟩ := B₁.T
  have X := B₁.X
  walk_at "stm"
  walk_at "stm"
  walk_at "stms"
  with_reducible rename Fr _ _ _ _ => Fz
  with_reducible rename News _ _ _ _ => Nz
  with_reducible rename List.Nodup _ => ndz
  have hx1 := Nz _ (.tail _ (.head _))
  have hx2 := Nz _ (.tail _ (.tail _ (.head _)))
  have hx3 := Nz _ (.head _)
  refine hR _ _ _ _ _ _ _ _ _ (fun b o hb ho => Fz.keep _ _ (kp b o hb ho)) (Own.cons hx1.1 (gnone gg hx1.2.2) (Own.cons hx2.1 (gnone gg hx2.2.2) (Own.cons hx3.1 (gnone gg hx3.2.2) Own.nil))) (fr2 _ hx3.2.2 ?_) ?_
  · exact (List.nodup_cons.mp ndz).1
  · exact (List.perm_append_comm (l₁ := [_]) (l₂ := [x, dx])).nodup_iff.mp ndz
end
section
example : True := by w_top off; trivial
theorem Rm.under_make {A : Around} {k : Nat} {C : Addr} {rest : List Value} (r : Rm A (k + 1)) : Rm (A.under (.builtin "type.__call__" ⟨.ref C :: rest, []⟩)) k := by
  have hu : (Code.builtin "type.__call__" ⟨.ref C :: rest, []⟩).cUnits ≤ 60 := by
    have : (Code.builtin "type.__call__" ⟨.ref C :: rest, []⟩).cUnits = (Code.builtin "type.__call__" ⟨[], []⟩).cUnits := rfl
    rw [this]; decide +kernel
  refine ⟨r.hh, ?_, ?_⟩
  · rw [depth_under_make]; have := r.dp; omega
  · have := r.un
    show A.units + _ + 60 * k < 9000
    omega
theorem lex_new (hK : PySem.Challenge.rw_pg0241_01 = PySem.Challenge.rw_pg0241_01 ∧ heapK = heapK) {w : World} {A : Around} {E : Value → Shared → Prop} {s : Shared} {g : Heap} {L fp : Addr} {m : Str → Option Value} {news : List (Addr × Obj)} {Q : Value → Shared → Prop}
  (B : Bs w g) (hr : Rm A 3) (F : Fr g L s.heap m) (N : News g L s.heap news) (nd : (ads news).Nodup)
  (h : ∀ h' t x dx l a1 a2 a3 a4 a5 tn, Fr g L h' m → News g L h' ((x, instObj 112 dx) :: (dx, lexD w.params a1 a2 a3 a4 a5 1 tn fp l) :: (l, listOf #[] 0) :: news) → (x :: dx :: l :: ads news).Nodup → Q (.ref x) (At s h' t)) :
  wpAny (model P0 w) A (call (.ref 112) [.ref fp]) Q E s := by
  revert hK; k_fill; intro hK; clear hK
  have X := B.X
  refine wpAny_call (make_K (fI := 88) F N (X.keeps F.keep) ?k1 ?k2 ?k3 fun x dx h1 F1 N1 l1 l2 => ?_)
  case k1 => k_is
  case k2 => k_is
  case k3 => k_is
  have nd1 := nd_two nd rfl l1 l2
  refine init_ok ⟨rfl, rfl⟩ B F1.keep (hr.under_make.less (by omega)) (own_of_news N1 fun p hp => List.mem_append_left (bs := news) hp) (nd1.sublist (List.sublist_append_left [x, dx] (ads news))) (fun h2 t l a1 a2 a3 a4 a5 tn k O hl nd2 => ?_)
  obtain ⟨F2, N2⟩ := after_put [0, 1] F1 N1 nd1 rfl rfl k (own' := [(x, instObj 112 dx), (dx, lexD w.params a1 a2 a3 a4 a5 1 tn fp l)]) (fun p hp => O p (List.mem_append_left (bs := [_]) hp)) rfl rfl
  have N3 := News.add F1 N2 hl (O _ (.tail _ (.tail _ (.head _)))).1
  have nd3 := nd_add nd1 rfl N1 hl
  refine And.intro rfl (h _ _ x dx l a1 a2 a3 a4 a5 tn F2 (fun p hp => N3 p ?_) ?_)
  · rcases List.mem_cons.mp hp with rfl | hp
    · exact .tail _ (.head _)
    · rcases List.mem_cons.mp hp with rfl | hp
      · exact .tail _ (.tail _ (.head _))
      · rcases List.mem_cons.mp hp with rfl | hp
        · exact .head _
        · exact .tail _ (.tail _ (.tail _ hp))
  · exact (List.Perm.append_right (ads news) (List.perm_append_comm (l₁ := [l]) (l₂ := [x, dx]))).nodup_iff.mp nd3
end
section
example : True := by w_top off; trivial
theorem push_ok (hK : PySem.Challenge.rw_pg0241_01 = PySem.Challenge.rw_pg0241_01 ∧ heapK = heapK) {w : World} {A : Around} {R : Result → Shared → Prop} {s : Shared} {g : Heap} {x dx fp l : Addr} {a1 a2 a3 a4 a5 tn : Tok} {n : Int} {vs : List Value} {e : Nat} {v : Value}
  (B : Bs w g) (hg : Sub g s.heap) (hr : Rm A 1) (O : Own g s.heap [(x, instObj 112 dx), (dx, lexD w.params a1 a2 a3 a4 a5 n tn fp l), (l, listOf vs.toArray e)]) (nd : [x, dx, l].Nodup) (hl : vs.length < 1000)
  (hR : ∀ h' t e', Keep [l] s.heap h' → Own g h' [(l, listOf (vs ++ [v]).toArray e')] → R (.ok (.ret .none)) ⟨h', s.gens, s.drawn, t, s.os⟩) :
  codeAny (model P0 w) A (.call (.ref 109) ⟨[.ref x, v], []⟩) R s := by
  revert hK; k_fill; intro hK; clear hK
  refine enterK (k := 0) (binds := [("self", .ref x), ("token", v)]) B hg O (by k_is) (by k_is) hr (by exact BindsTo.of_eq rfl) (by exact locs rfl) (fun g₁ L h₁ tk gg kp gs fr fr2 hL hlt B₁ F N dA fA gA uA r => ?_)
  obtain ⟨p, loose, mean, mg, mb, T⟩ := B₁.T
  have X := B₁.X
  have hsz : vs.toArray.size = vs.length := by simp
  walk_at "stm"
  walk_at "stms"
  with_reducible rename Fr _ _ _ _ => Fz
  with_reducible rename News _ _ _ _ => Nz
  rw [List.push_toArray] at Nz
  exact hR _ _ _ (keep_read (X := [_, _]) (G := [_]) kp (fun p hp => O p (List.mem_append_left [_] hp)) Fz Nz (fun p hp => List.mem_append_left [_] hp)) (own_at gg Nz fun p hp => .tail _ (.tail _ hp))
end
section
example : True := by w_top off; trivial
theorem readc_ok (hK : PySem.Challenge.rw_pg0241_01 = PySem.Challenge.rw_pg0241_01 ∧ heapK = heapK) {w : World} {A : Around} {R : Result → Shared → Prop} {s : Shared} {g : Heap} {x dx f1 l d f2 cell c2 S : Addr} {a1 a2 a3 a4 a5 tn : Tok} {n : Int} {fo od co ro : Obj} {vs : List Value} {e : Nat}
  (B : Bs w g) (hg : Sub g s.heap) (hr : Rm A 3) (O : Own g s.heap [(x, instObj 112 dx), (dx, lexD w.params a1 a2 a3 a4 a5 n tn f1 l), (f1, fo), (d, od), (f2, ro), (cell, co), (S, listOf vs.toArray e)]) (nd : [x, dx, f1, d, f2, cell, S].Nodup)
  (M : Stm S f1 d f2 cell fo od co c2 ro) (hcd : s.heap.CodeRec (.ref c2) "_law_stream.<locals>.<lambda>") (hl : vs.length < 1000) (hvs : ∀ v ∈ vs, ∃ (z : Str) (u : Tok), v = .str z u) (hn0 : 0 ≤ n) (hn1 : n < 1000000)
  (hR : ∀ (h' : Heap) (t : Nat) (us : List Value) (z : Str) (u : Tok) (e' : Nat) (n' : Int) (tn' : Tok), ((vs = [] ∧ us = [] ∧ z = "") ∨ vs = us ++ [.str z u]) → n' = (if z = "\n" then n + 1 else n) → Keep [dx, S] s.heap h' → Own g h' [(dx, lexD w.params a1 a2 a3 a4 a5 n' tn' f1 l), (S, listOf us.toArray e')] → R (.ok (.ret (.str z u))) ⟨h', s.gens, s.drawn, t, s.os⟩) :
  codeAny (model P0 w) A (.call (.ref 95) ⟨[.ref x], []⟩) R s := by
  revert hK; k_fill; intro hK; clear hK
  refine enterK (k := 2) (binds := [("self", .ref x)]) B hg O (by k_is) (by k_is) hr (by exact BindsTo.of_eq rfl) (by exact locs rfl) (fun g₁ L h₁ tk gg kp gs fr fr2 hL hlt B₁ F N dA fA gA uA r => ?_)
  obtain ⟨p, loose, mean, mg, mb, T⟩ := B₁.T
  have X := B₁.X
  obtain ⟨pm, ct, hro⟩ := M.ro
  obtain ⟨fx, hff⟩ := M.ff
  subst hro
  walk_at "stm"
  with_reducible rename News _ _ _ _ => Nx
  refine fn_get_K Nx (.tail _ (.tail _ (.head _))) (.tail _ (.tail _ (.tail _ (.head _)))) M.ns rfl M.fc M.fd hff ?_
  dsimp only
  refine callWith_F (FnAt.of Nx (.tail _ (.tail _ (.tail _ (.tail _ (.head _)))))) ?_
  walk_at "stm"
  with_reducible rename Fr _ _ _ _ => Fx
  have hcd₁ : g₁.CodeRec (.ref c2) "_law_stream.<locals>.<lambda>" := coderec_keep hcd kp (fun b hb => by
    have q : ∀ p ∈ [(x, instObj 112 dx), (dx, lexD w.params a1 a2 a3 a4 a5 n tn f1 l), (f1, fo), (d, od), (f2, fnRead cell pm c2 ct), (cell, co), (S, listOf vs.toArray e)], ∀ us, p.2.data ≠ Data.fields us := by
      intro p hp us
      simp only [List.mem_cons, List.not_mem_nil, or_false] at hp
      rcases hp with rfl | rfl | rfl | rfl | rfl | rfl | rfl
      · nofun
      · nofun
      · rw [hff]; nofun
      · obtain ⟨es, ep, hd, _⟩ := M.ns; rw [hd]; nofun
      · nofun
      · rw [M.co]; nofun
      · nofun
    obtain ⟨p, hp, rfl⟩ := List.mem_map.mp hb
    exact ⟨p.2, (O p hp).1, q p hp⟩)
  refine wpAny_call (read_ok ⟨rfl, rfl⟩ (n := 1) (S := S) (cell := cell) (co := co) (pm := pm) (ct := ct) (vs := vs) (e := e) B₁ Fx.keep (r.less (by omega)) (own_of_news Nx fun p hp => ?_) ?_ M.co (hcd₁.keeps Fx.keep) hl (fun h5 t5 us y e5 hy k5 O5 => ?_))
  · simp only [List.mem_cons, List.not_mem_nil, or_false] at hp ⊢
    grind
  · simp only [List.nodup_cons, List.mem_cons, List.not_mem_nil, or_false, not_or] at nd ⊢
    grind
  obtain ⟨F5, N5⟩ := after_put [6, 4, 5] Fx Nx nd rfl rfl k5 O5 rfl rfl
  clear Fx Nx
  change News g₁ L h5 [(x, instObj 112 dx), (dx, lexD w.params a1 a2 a3 a4 a5 n tn f1 l), (f1, fo), (d, od), (f2, fnRead cell pm c2 ct), (cell, co), (S, listOf us.toArray e5)] at N5
  have kp' : Keep (ads ([(x, instObj 112 dx), (f1, fo), (d, od), (f2, fnRead cell pm c2 ct), (cell, co)] ++ [(dx, emptyDict), (S, emptyDict)])) s.heap g₁ := fun b o hb => kp b o fun hm => hb (by
    simp only [ads, List.cons_append, List.nil_append, List.map_cons, List.map_nil, List.mem_cons, List.not_mem_nil, or_false] at hm ⊢
    grind)
  have OX : Own g s.heap [(x, instObj 112 dx), (f1, fo), (d, od), (f2, fnRead cell pm c2 ct), (cell, co)] := fun p hp => O p (by
    simp only [List.mem_cons, List.not_mem_nil, or_false] at hp ⊢
    grind)
  obtain ⟨z, u, rfl, hz⟩ : ∃ (z : Str) (u : Tok), y = .str z u ∧ ((vs = [] ∧ us = [] ∧ z = "") ∨ vs = us ++ [.str z u]) := by
    rcases hy with ⟨e1, e2, ty, e3⟩ | e1
    · exact ⟨_, _, e3, .inl ⟨e1, e2, rfl⟩⟩
    · obtain ⟨z, u, e3⟩ := hvs y (by rw [e1]; exact List.mem_append_right _ (.head _))
      exact ⟨z, u, e3, .inr (e3 ▸ e1)⟩
  by_cases hnl : z = "\n"
  · subst hnl
    walk_at "stm"
    walk_at "stm"
    walk_at "stms"
    with_reducible rename Fr _ _ _ _ => Fz
    with_reducible rename News _ _ _ _ => Nz
    have hx2 := Nz _ (.tail _ (.head _))
    have hx7 := Nz _ (.tail _ (.tail _ (.tail _ (.tail _ (.tail _ (.tail _ (.head _)))))))
    refine hR _ _ us "\n" u e5 (n + 1) _ hz (if_pos rfl).symm (keep_read kp' OX Fz Nz fun p hp => ?_) (Own.cons hx2.1 (gnone gg hx2.2.2) (Own.cons hx7.1 (gnone gg hx7.2.2) Own.nil))
    · simp only [List.mem_cons, List.not_mem_nil, or_false] at hp ⊢
      grind
  · walk_at "stm"
    walk_at "stm"
    walk_at "stms"
    with_reducible rename Fr _ _ _ _ => Fz
    with_reducible rename News _ _ _ _ => Nz
    have hx2 := Nz _ (.tail _ (.head _))
    have hx7 := Nz _ (.tail _ (.tail _ (.tail _ (.tail _ (.tail _ (.tail _ (.head _)))))))
    refine hR _ _ us z u e5 n _ hz (if_neg hnl).symm (keep_read kp' OX Fz Nz fun p hp => ?_) (Own.cons hx2.1 (gnone gg hx2.2.2) (Own.cons hx7.1 (gnone gg hx7.2.2) Own.nil))
    · simp only [List.mem_cons, List.not_mem_nil, or_false] at hp ⊢
      grind
end
section
example : True := by w_top off; trivial
theorem get_back_ok (hK : PySem.Challenge.rw_pg0241_01 = PySem.Challenge.rw_pg0241_01 ∧ heapK = heapK) {w : World} {A : Around} {R : Result → Shared → Prop} {s : Shared} {g : Heap} {x dx fp l : Addr} {a1 a2 a3 a4 a5 tn : Tok} {n : Int} {y : Value} {us : List Value} {e : Nat}
  (B : Bs w g) (hg : Sub g s.heap) (hr : Rm A 1) (O : Own g s.heap [(x, instObj 112 dx), (dx, lexD w.params a1 a2 a3 a4 a5 n tn fp l), (l, listOf (y :: us).toArray e)]) (nd : [x, dx, l].Nodup) (hl : us.length < 1000)
  (hR : ∀ h' t e', Keep [l] s.heap h' → Own g h' [(l, listOf us.toArray e')] → R (.ok (.ret y)) ⟨h', s.gens, s.drawn, t, s.os⟩) :
  codeAny (model P0 w) A (.call (.ref 102) ⟨[.ref x], []⟩) R s := by
  revert hK; k_fill; intro hK; clear hK
  refine enterK (k := 0) (binds := [("self", .ref x)]) B hg O (by k_is) (by k_is) hr (by exact BindsTo.of_eq rfl) (by exact locs rfl) (fun g₁ L h₁ tk gg kp gs fr fr2 hL hlt B₁ F N dA fA gA uA r => ?_)
  obtain ⟨p, loose, mean, mg, mb, T⟩ := B₁.T
  have X := B₁.X
  have hsz : (y :: us).toArray.size = us.length + 1 := by simp
  walk_at "stm"
  with_reducible rename News _ _ _ _ => Nx
  refine wpAny_truthy_list (News.isList Nx (.tail _ (.tail _ (.head _)))) (by rw [hsz]; omega) ?_
  rw [show (!(y :: us).toArray.isEmpty) = true by simp, if_pos rfl]
  walk_at "stm"
  walk_at "stms"
  with_reducible rename Fr _ _ _ _ => Fy
  with_reducible rename News _ _ _ _ => Ny
  refine pop0_K Fy Ny (upd_s nd rfl (upd_s (ndt nd) rfl (upd_z (ndt (ndt nd)) rfl))) ?_ hl
  intro h5 F5 N5
  exact hR _ _ _ (keep_read (X := [_, _]) (G := [_]) kp (fun p hp => O p (List.mem_append_left [_] hp)) F5 N5 (fun p hp => List.mem_append_left [_] hp)) (own_at gg N5 fun p hp => .tail _ (.tail _ hp))
end
section
example : True := by w_top off; trivial
/-- the signs that wait, the next one last -/
inductive Chs : List Value → List Nat → Prop
  | nil : Chs [] []
  | snoc (c : Nat) (u : Tok) {us : List Value} {cs : List Nat} : Chs us cs → Chs (us ++ [.str ⟨#[c]⟩ u]) (c :: cs)
theorem Chs.len {vs : List Value} {cs : List Nat} (h : Chs vs cs) : vs.length = cs.length := by
  induction h with
  | nil => rfl
  | snoc c u r ih => rw [List.length_append, ih]; rfl
theorem Chs.str {vs : List Value} {cs : List Nat} (h : Chs vs cs) : ∀ v ∈ vs, ∃ (z : Str) (u : Tok), v = .str z u := by
  induction h with
  | nil => intro v hv; cases hv
  | snoc c u r ih =>
    intro v hv
    rcases List.mem_append.mp hv with hv | hv
    · exact ih v hv
    · exact ⟨_, _, List.mem_singleton.mp hv⟩
theorem Chs.inv {vs : List Value} {c : Nat} {cs : List Nat} (h : Chs vs (c :: cs)) : ∃ us u, vs = us ++ [.str ⟨#[c]⟩ u] ∧ Chs us cs := by
  cases h with
  | snoc c u r => exact ⟨_, u, rfl, r⟩
theorem Chs.inv0 {vs : List Value} (h : Chs vs []) : vs = [] := by cases h; rfl
theorem Rm.in1 {A : Around} {k : Nat} (r : Rm A (k + 1)) : Rm A.in1 k := ⟨r.hh, by have := r.dp; show A.depth + k < 900; omega, by have := r.un; show A.units + 1 + 60 * k < 9000; omega⟩
/-- a lexer's ledger -/
abbrev lexN (p : Params) (x dx l f1 d f2 cell c2 S : Addr) (a1 a2 a3 a4 a5 : Tok) (fo od co : Obj) (pm ct : Value) (lo : Obj) (n : Int) (tn : Tok) (vs : List Value) (e : Nat) : List (Addr × Obj) :=
  [(x, instObj 112 dx), (dx, lexD p a1 a2 a3 a4 a5 n tn f1 l), (l, lo), (f1, fo), (d, od), (f2, fnRead cell pm c2 ct), (cell, co), (S, listOf vs.toArray e)]
theorem nl_eq : ("\n" : Str) = ⟨#[10]⟩ := by decide +kernel
theorem em_eq : ("" : Str) = ⟨#[]⟩ := by decide +kernel
theorem str_ne0 {c : Nat} : (⟨#[c]⟩ : Str) ≠ "" := by
  rw [em_eq]
  intro h
  injection h with h
  simp at h
theorem str_inj1 {c c' : Nat} (h : (⟨#[c]⟩ : Str) = ⟨#[c']⟩) : c = c' := by
  injection h with h; simpa using h
section
variable {w : World} {A : Around} {E : Value → Shared → Prop} {s : Shared} {g : Heap} {L : Addr} {m : Str → Option Value}
  {I q x dx l f1 d f2 cell c2 S : Addr} {a1 a2 a3 a4 a5 tn : Tok} {fo od co lo : Obj} {pm ct : Value} {n : Int} {vs : List Value} {e : Nat} {ts : Tok}
theorem next_lex_item (hK : PySem.Challenge.rw_pg0241_01 = PySem.Challenge.rw_pg0241_01 ∧ heapK = heapK) {c : Nat} {cs : List Nat} {Q : Option Value → Shared → Prop} (B : Bs w g) (hr : Rm A 5) (F : Fr g L s.heap m)
    (N : News g L s.heap ((I, citObj (.ref q) (.str "" ts) false) :: (q, methodObj (.ref 95) (.ref x)) :: lexN w.params x dx l f1 d f2 cell c2 S a1 a2 a3 a4 a5 fo od co pm ct lo n tn vs e))
    (nd : [I, q, x, dx, l, f1, d, f2, cell, S].Nodup) (M : Stm S f1 d f2 cell fo od co c2 (fnRead cell pm c2 ct)) (hcd : g.CodeRec (.ref c2) "_law_stream.<locals>.<lambda>") (hv : Chs vs (c :: cs)) (hl : cs.length < 900) (hn0 : 0 ≤ n) (hn1 : n < 1000000)
    (h : ∀ h' t us u e' n' tn', Chs us cs → n' = (if c = 10 then n + 1 else n) → Fr g L h' m → News g L h' ((I, citObj (.ref q) (.str "" ts) false) :: (q, methodObj (.ref 95) (.ref x)) :: lexN w.params x dx l f1 d f2 cell c2 S a1 a2 a3 a4 a5 fo od co pm ct lo n' tn' us e') → Q (some (.str ⟨#[c]⟩ u)) (At s h' t)) :
    wpAny (model P0 w) A (pyNext (.ref I)) Q E s := by
  revert hK; k_fill; intro hK; clear hK
  have X := B.X
  have hlen := hv.len
  obtain ⟨oc9, od9, fd9, sl9, h95⟩ : ∃ oc od fd osl, (heapK w.params).lookup 95 = some ⟨oc, od, .func fd, osl⟩ := ⟨_, _, _, _, by k_is⟩
  have hf95 : ∀ {h'}, Fr g L h' m → h'.get? 95 = some ⟨oc9, od9, .func fd9, sl9⟩ := fun F' => F'.keep _ _ (X _ _ h95)
  refine next_cit hr.hh (N _ (.head _)).1 (N _ (.tail _ (.head _))).1 (hf95 F) rfl ?_
  refine readc_ok ⟨rfl, rfl⟩ (A := A.in1) (S := S) (d := d) (cell := cell) (f2 := f2) (l := l) (f1 := f1) (dx := dx) (a1 := a1) (a2 := a2) (a3 := a3) (a4 := a4) (a5 := a5) (n := n) (tn := tn) (e := e) (od := od) (vs := vs) B F.keep (hr.in1.less (by omega)) (own_of_news N fun p hp => ?_) ?_ M (hcd.keeps F.keep) (by rw [hlen, List.length_cons]; omega) hv.str hn0 hn1 (fun h' t us z u e' n' tn' hz hn' k O => ?_)
  · simp only [lexN, List.mem_cons, List.not_mem_nil, or_false] at hp ⊢
    grind
  · simp only [List.nodup_cons, List.mem_cons, List.not_mem_nil, or_false, not_or] at nd ⊢
    grind
  obtain ⟨us, u0, rfl, hus⟩ := hv.inv
  obtain ⟨F2, N2⟩ := after_put [3, 9] F N nd rfl rfl k O rfl rfl
  change News g L h' ((I, citObj (.ref q) (.str "" ts) false) :: (q, methodObj (.ref 95) (.ref x)) :: lexN w.params x dx l f1 d f2 cell c2 S a1 a2 a3 a4 a5 fo od co pm ct lo n' tn' _ e') at N2
  rcases hz with ⟨h1, _⟩ | h1
  · exact absurd h1 (by simp)
  · obtain ⟨rfl, h2⟩ := List.append_inj' h1 rfl
    have h3 := List.head_eq_of_cons_eq h2
    injection h3 with h3 h4
    subst h3 h4
    refine ⟨_, _, rfl, (N2 _ (.head _)).1, (N2 _ (.tail _ (.head _))).1, hf95 F2, fun _ => ?_, fun e0 => ?_⟩
    · refine h _ _ _ _ _ n' tn' hus ?_ F2 N2
      rw [hn', nl_eq]
      by_cases hc : c = 10
      · subst hc; rw [if_pos rfl, if_pos rfl]
      · rw [if_neg hc, if_neg fun e0 => hc (str_inj1 e0)]
    · exact absurd e0 str_ne0
theorem next_lex_end (hK : PySem.Challenge.rw_pg0241_01 = PySem.Challenge.rw_pg0241_01 ∧ heapK = heapK) {Q : Option Value → Shared → Prop} (B : Bs w g) (hr : Rm A 5) (F : Fr g L s.heap m)
    (N : News g L s.heap ((I, citObj (.ref q) (.str "" ts) false) :: (q, methodObj (.ref 95) (.ref x)) :: lexN w.params x dx l f1 d f2 cell c2 S a1 a2 a3 a4 a5 fo od co pm ct lo n tn [] e))
    (nd : [I, q, x, dx, l, f1, d, f2, cell, S].Nodup) (M : Stm S f1 d f2 cell fo od co c2 (fnRead cell pm c2 ct)) (hcd : g.CodeRec (.ref c2) "_law_stream.<locals>.<lambda>") (hn0 : 0 ≤ n) (hn1 : n < 1000000)
    (h : ∀ h' t e' tn', Fr g L h' m → News g L h' ((I, citObj .none .none true) :: (q, methodObj (.ref 95) (.ref x)) :: lexN w.params x dx l f1 d f2 cell c2 S a1 a2 a3 a4 a5 fo od co pm ct lo n tn' [] e') → Q none (At s h' t)) :
    wpAny (model P0 w) A (pyNext (.ref I)) Q E s := by
  revert hK; k_fill; intro hK; clear hK
  have X := B.X
  obtain ⟨oc9, od9, fd9, sl9, h95⟩ : ∃ oc od fd osl, (heapK w.params).lookup 95 = some ⟨oc, od, .func fd, osl⟩ := ⟨_, _, _, _, by k_is⟩
  have hf95 : ∀ {h'}, Fr g L h' m → h'.get? 95 = some ⟨oc9, od9, .func fd9, sl9⟩ := fun F' => F'.keep _ _ (X _ _ h95)
  refine next_cit hr.hh (N _ (.head _)).1 (N _ (.tail _ (.head _))).1 (hf95 F) rfl ?_
  refine readc_ok ⟨rfl, rfl⟩ (A := A.in1) (S := S) (d := d) (cell := cell) (f2 := f2) (l := l) (f1 := f1) (dx := dx) (a1 := a1) (a2 := a2) (a3 := a3) (a4 := a4) (a5 := a5) (n := n) (tn := tn) (e := e) (od := od) (vs := []) B F.keep (hr.in1.less (by omega)) (own_of_news N fun p hp => ?_) ?_ M (hcd.keeps F.keep) (by decide) (fun v hv => nomatch hv) hn0 hn1 (fun h' t us z u e' n' tn' hz hn' k O => ?_)
  · simp only [lexN, List.mem_cons, List.not_mem_nil, or_false] at hp ⊢
    grind
  · simp only [List.nodup_cons, List.mem_cons, List.not_mem_nil, or_false, not_or] at nd ⊢
    grind
  rcases hz with ⟨_, rfl, rfl⟩ | h1
  · have hn2 : n' = n := by rw [hn']; exact if_neg (by decide)
    subst hn2
    obtain ⟨F2, N2⟩ := after_put [3, 9] F N nd rfl rfl k O rfl rfl
    change News g L h' ((I, citObj (.ref q) (.str "" ts) false) :: (q, methodObj (.ref 95) (.ref x)) :: lexN w.params x dx l f1 d f2 cell c2 S a1 a2 a3 a4 a5 fo od co pm ct lo n' tn' [] e') at N2
    refine ⟨_, _, rfl, (N2 _ (.head _)).1, (N2 _ (.tail _ (.head _))).1, hf95 F2, fun e0 => absurd rfl e0, fun _ h3 k3 hi3 => ?_⟩
    obtain ⟨F3, N3⟩ := iter_turn F2 N2 nd k3 hi3
    exact h _ _ _ _ F3 N3
  · exact absurd h1 (by simp)
theorem readc_lex (hK : PySem.Challenge.rw_pg0241_01 = PySem.Challenge.rw_pg0241_01 ∧ heapK = heapK) {io : Obj} {c : Nat} {cs : List Nat} {Q : Value → Shared → Prop} (B : Bs w g) (hr : Rm A 4) (F : Fr g L s.heap m)
    (N : News g L s.heap ((I, io) :: (q, methodObj (.ref 95) (.ref x)) :: lexN w.params x dx l f1 d f2 cell c2 S a1 a2 a3 a4 a5 fo od co pm ct lo n tn vs e))
    (nd : [I, q, x, dx, l, f1, d, f2, cell, S].Nodup) (M : Stm S f1 d f2 cell fo od co c2 (fnRead cell pm c2 ct)) (hcd : g.CodeRec (.ref c2) "_law_stream.<locals>.<lambda>") (hv : Chs vs (c :: cs)) (hl : cs.length < 900) (hn0 : 0 ≤ n) (hn1 : n < 1000000)
    (h : ∀ h' t us u e' n' tn', Chs us cs → n' = (if c = 10 then n + 1 else n) → Fr g L h' m → News g L h' ((I, io) :: (q, methodObj (.ref 95) (.ref x)) :: lexN w.params x dx l f1 d f2 cell c2 S a1 a2 a3 a4 a5 fo od co pm ct lo n' tn' us e') → Q (.str ⟨#[c]⟩ u) (At s h' t)) :
    wpAny (model P0 w) A (call (.ref 95) [.ref x]) Q E s := by
  revert hK; k_fill; intro hK; clear hK
  have hlen := hv.len
  refine wpAny_call (readc_ok ⟨rfl, rfl⟩ (A := A) (S := S) (d := d) (cell := cell) (f2 := f2) (l := l) (f1 := f1) (dx := dx) (a1 := a1) (a2 := a2) (a3 := a3) (a4 := a4) (a5 := a5) (n := n) (tn := tn) (e := e) (od := od) (vs := vs) B F.keep (hr.less (by omega)) (own_of_news N fun p hp => ?_) ?_ M (hcd.keeps F.keep) (by rw [hlen, List.length_cons]; omega) hv.str hn0 hn1 (fun h' t us z u e' n' tn' hz hn' k O => ?_))
  · simp only [lexN, List.mem_cons, List.not_mem_nil, or_false] at hp ⊢
    grind
  · simp only [List.nodup_cons, List.mem_cons, List.not_mem_nil, or_false, not_or] at nd ⊢
    grind
  obtain ⟨us, u0, rfl, hus⟩ := hv.inv
  obtain ⟨F2, N2⟩ := after_put [3, 9] F N nd rfl rfl k O rfl rfl
  change News g L h' ((I, io) :: (q, methodObj (.ref 95) (.ref x)) :: lexN w.params x dx l f1 d f2 cell c2 S a1 a2 a3 a4 a5 fo od co pm ct lo n' tn' _ e') at N2
  rcases hz with ⟨h1, _⟩ | h1
  · exact absurd h1 (by simp)
  · obtain ⟨rfl, h2⟩ := List.append_inj' h1 rfl
    have h3 := List.head_eq_of_cons_eq h2
    injection h3 with h3 h4
    subst h3 h4
    refine h _ _ _ _ _ n' tn' hus ?_ F2 N2
    rw [hn', nl_eq]
    by_cases hc : c = 10
    · subst hc; rw [if_pos rfl, if_pos rfl]
    · rw [if_neg hc, if_neg fun e0 => hc (str_inj1 e0)]
end
end
section
example : True := by w_top off; trivial
/-! what get_token reads: plain -/
def isWs (c : Nat) : Bool := c == 10 || c == 9 || c == 13 || c == 32
/-- the signs of the law's text -/
def alpha : List Nat := [97, 32, 92, 34, 10, 98, 9, 35, 122]
theorem ws_in : ∀ c ∈ alpha, (!(Builtin.Str.occurrences "\n\t\r " ⟨#[c]⟩ 0 ("\n\t\r " : Str).length 1).isEmpty) = isWs c := by decide +kernel
inductive QT : List Nat → List Nat → List Nat → List Nat → Prop
  | done {acc r} : QT acc (34 :: r) acc r
  | esc {acc c r tok rest} : QT (acc ++ [c]) r tok rest → QT acc (92 :: c :: r) tok rest
  | plain {acc c r tok rest} : c ≠ 34 → c ≠ 92 → QT (acc ++ [c]) r tok rest → QT acc (c :: r) tok rest
inductive BT : List Nat → List Nat → List Nat → List Nat → Bool → Prop
  | done {acc c r} : isWs c = true → BT acc (c :: r) acc r false
  | stop {acc} : BT acc [] acc [] true
  | esc {acc c r tok rest b} : BT (acc ++ [c]) r tok rest b → BT acc (92 :: c :: r) tok rest b
  | plain {acc c r tok rest b} : isWs c = false → c ≠ 92 → BT (acc ++ [c]) r tok rest b → BT acc (c :: r) tok rest b
inductive T0 : List Nat → List Nat → List Nat → Prop
  | skip {c r tok rest} : isWs c = true → T0 r tok rest → T0 (c :: r) tok rest
  | quote {r tok rest} : QT [] r tok rest → T0 (34 :: r) tok rest
  | esc {c r tok rest b} : BT [c] r tok rest b → T0 (92 :: c :: r) tok rest
  | bare {c r tok rest b} : isWs c = false → c ≠ 34 → c ≠ 92 → BT [c] r tok rest b → T0 (c :: r) tok rest
  | stop : T0 [] [] []
/-- the state of the lexer's loop -/
def strOf (l : List Nat) : Str := ⟨l.toArray⟩
theorem strOf_snoc (acc : List Nat) (c : Nat) : strOf acc ++ (⟨#[c]⟩ : Str) = strOf (acc ++ [c]) := by
  show (⟨acc.toArray ++ #[c]⟩ : Str) = _
  unfold strOf
  congr 1
  simp
theorem line_step {n n6 k : Int} {c : Nat} {cs : List Nat} (h6 : n6 = if c = 10 then n + 1 else n) (hcn : n + ((c :: cs).count 10 : Nat) = k) (h0 : 0 ≤ n) (h1 : n + ((c :: cs).length : Nat) < 1000000) :
    n6 + (cs.count 10 : Nat) = k ∧ 0 ≤ n6 ∧ n6 + (cs.length : Nat) < 1000000 := by
  rw [List.count_cons] at hcn
  rw [List.length_cons] at h1
  by_cases h : c = 10
  · subst h
    rw [if_pos rfl] at h6
    simp at hcn
    omega
  · rw [if_neg h] at h6
    rw [if_neg (by simpa using h)] at hcn
    omega
end
section
example : True := by w_top off; trivial
theorem em_snoc (c : Nat) : (Str.ofString "" ++ (⟨#[c]⟩ : Str)) = strOf [c] := by
  rw [show Str.ofString "" = ⟨#[]⟩ from em_eq]; exact strOf_snoc [] c
abbrev JC20c (w : World) (s : Shared) (x : Addr) (dx : Addr) (f1 : Addr) (l : Addr) (d : Addr) (f2 : Addr) (cell : Addr) (c2 : Addr) (S : Addr) (a1 : Tok) (a2 : Tok) (a3 : Tok) (a4 : Tok) (a5 : Tok) (n0 : Int) (fo : Obj) (od : Obj) (co : Obj) (e0 : Nat) (cs0 : List Nat) (tok : List Nat) (rest : List Nat) (g₁ : Heap) (L : Addr) (pm : Value) (ct : Value) (q : Addr) (I : Addr) (b : Bool) : Nat → Shared → Prop := fun (k : Nat) (s' : Shared) => Ex11 fun (acc cs : List Nat) (n : Int) (tn : Tok) (vs : List Value) (e : Nat) (ts t0 : Tok) (xc : Option Value) (h : Heap) (t : Nat) => And11 (s' = At s h t) (k = cs.length + 1) (Chs vs cs) (BT acc cs tok rest b) ((∀ c ∈ cs, c ∈ alpha)) (n + cs.count 10 = n0 + cs0.count 10) (0 ≤ n) (n + cs.length < 1000000) (acc.length + cs.length < 900) (Fr g₁ L h (fun y : Str => if y = "ch" then xc else if y = "fiter" then some (.ref I) else if y = "token" then some (.str (strOf acc) t0) else if y = "self" then some (.ref x) else none)) (News g₁ L h ((I, citObj (.ref q) (.str "" ts) false) :: (q, methodObj (.ref 95) (.ref x)) :: lexN w.params x dx l f1 d f2 cell c2 S a1 a2 a3 a4 a5 fo od co pm ct (listOf #[] e0) n tn vs e))
abbrev JC20b (w : World) (s : Shared) (x : Addr) (dx : Addr) (f1 : Addr) (l : Addr) (d : Addr) (f2 : Addr) (cell : Addr) (c2 : Addr) (S : Addr) (a1 : Tok) (a2 : Tok) (a3 : Tok) (a4 : Tok) (a5 : Tok) (n0 : Int) (fo : Obj) (od : Obj) (co : Obj) (e0 : Nat) (cs0 : List Nat) (tok : List Nat) (rest : List Nat) (g₁ : Heap) (L : Addr) (pm : Value) (ct : Value) (q : Addr) (I : Addr) (b : Bool) : Nat → Shared → Prop := fun (k : Nat) (s' : Shared) => Ex11 fun (acc cs : List Nat) (n : Int) (tn : Tok) (vs : List Value) (e : Nat) (ts t0 : Tok) (xc : Option Value) (h : Heap) (t : Nat) => And11 (s' = At s h t) (k = cs.length + 1) (Chs vs cs) (BT acc cs tok rest b) ((∀ c ∈ cs, c ∈ alpha)) (n + cs.count 10 = n0 + cs0.count 10) (0 ≤ n) (n + cs.length < 1000000) (acc.length + cs.length < 900) (Fr g₁ L h (fun y : Str => if y = "ch" then xc else if y = "fiter" then some (.ref I) else if y = "token" then some (.str (strOf acc) t0) else if y = "self" then some (.ref x) else none)) (News g₁ L h ((I, citObj (.ref q) (.str "" ts) false) :: (q, methodObj (.ref 95) (.ref x)) :: lexN w.params x dx l f1 d f2 cell c2 S a1 a2 a3 a4 a5 fo od co pm ct (listOf #[] e0) n tn vs e))
abbrev JC20a (w : World) (s : Shared) (x : Addr) (dx : Addr) (f1 : Addr) (l : Addr) (d : Addr) (f2 : Addr) (cell : Addr) (c2 : Addr) (S : Addr) (a1 : Tok) (a2 : Tok) (a3 : Tok) (a4 : Tok) (a5 : Tok) (n0 : Int) (fo : Obj) (od : Obj) (co : Obj) (e0 : Nat) (cs0 : List Nat) (tok : List Nat) (rest : List Nat) (g₁ : Heap) (L : Addr) (pm : Value) (ct : Value) (q : Addr) (I : Addr) : Nat → Shared → Prop := fun (k : Nat) (s' : Shared) => Ex11 fun (acc cs : List Nat) (n : Int) (tn : Tok) (vs : List Value) (e : Nat) (ts t0 : Tok) (xc : Option Value) (h : Heap) (t : Nat) => And11 (s' = At s h t) (k = cs.length + 1) (Chs vs cs) (QT acc cs tok rest) ((∀ c ∈ cs, c ∈ alpha)) (n + cs.count 10 = n0 + cs0.count 10) (0 ≤ n) (n + cs.length < 1000000) (acc.length + cs.length < 900) (Fr g₁ L h (fun y : Str => if y = "ch" then xc else if y = "fiter" then some (.ref I) else if y = "token" then some (.str (strOf acc) t0) else if y = "self" then some (.ref x) else none)) (News g₁ L h ((I, citObj (.ref q) (.str "" ts) false) :: (q, methodObj (.ref 95) (.ref x)) :: lexN w.params x dx l f1 d f2 cell c2 S a1 a2 a3 a4 a5 fo od co pm ct (listOf #[] e0) n tn vs e))
abbrev JC20o (w : World) (s : Shared) (x : Addr) (dx : Addr) (f1 : Addr) (l : Addr) (d : Addr) (f2 : Addr) (cell : Addr) (c2 : Addr) (S : Addr) (a1 : Tok) (a2 : Tok) (a3 : Tok) (a4 : Tok) (a5 : Tok) (n0 : Int) (fo : Obj) (od : Obj) (co : Obj) (e0 : Nat) (cs0 : List Nat) (tok : List Nat) (rest : List Nat) (g₁ : Heap) (L : Addr) (pm : Value) (ct : Value) (q : Addr) (I : Addr) : Nat → Shared → Prop := fun (k : Nat) (s' : Shared) => (Ex10 fun (cs : List Nat) (n : Int) (tn : Tok) (vs : List Value) (e : Nat) (ts t0 : Tok) (xc : Option Value) (h : Heap) (t : Nat) => And11 (s' = At s h t) (k = cs.length + 1) (Chs vs cs) (T0 cs tok rest) ((∀ c ∈ cs, c ∈ alpha)) (n + cs.count 10 = n0 + cs0.count 10) (0 ≤ n) (n + cs.length < 1000000) (cs.length < 900) (Fr g₁ L h (fun y : Str => if y = "ch" then xc else if y = "fiter" then some (.ref I) else if y = "token" then some (.str "" t0) else if y = "self" then some (.ref x) else none)) (News g₁ L h ((I, citObj (.ref q) (.str "" ts) false) :: (q, methodObj (.ref 95) (.ref x)) :: lexN w.params x dx l f1 d f2 cell c2 S a1 a2 a3 a4 a5 fo od co pm ct (listOf #[] e0) n tn vs e))) ∨ (Ex7 fun (n : Int) (tn : Tok) (e : Nat) (tt : Tok) (xc : Option Value) (h : Heap) (t : Nat) => And6 (s' = At s h t) (k = 0) (rest = []) (n + (List.count 10 rest : Nat) = n0 + cs0.count 10) (Fr g₁ L h (fun y : Str => if y = "ch" then xc else if y = "fiter" then some (.ref I) else if y = "token" then some (.str (strOf tok) tt) else if y = "self" then some (.ref x) else none)) (News g₁ L h ((I, citObj .none .none true) :: (q, methodObj (.ref 95) (.ref x)) :: lexN w.params x dx l f1 d f2 cell c2 S a1 a2 a3 a4 a5 fo od co pm ct (listOf #[] e0) n tn [] e)))
theorem get_read_ok (hK : PySem.Challenge.rw_pg0241_01 = PySem.Challenge.rw_pg0241_01 ∧ heapK = heapK) {w : World} {A : Around} {R : Result → Shared → Prop} {s : Shared} {g : Heap} {x dx f1 l d f2 cell c2 S : Addr} {a1 a2 a3 a4 a5 tn : Tok} {n0 : Int} {fo od co ro : Obj} {vs : List Value} {e e0 : Nat}
  (B : Bs w g) (hg : Sub g s.heap) (hr : Rm A 6) (O : Own g s.heap [(x, instObj 112 dx), (dx, lexD w.params a1 a2 a3 a4 a5 n0 tn f1 l), (l, listOf #[] e0), (f1, fo), (d, od), (f2, ro), (cell, co), (S, listOf vs.toArray e)]) (nd : [x, dx, l, f1, d, f2, cell, S].Nodup)
  (M : Stm S f1 d f2 cell fo od co c2 ro) (hcd : s.heap.CodeRec (.ref c2) "_law_stream.<locals>.<lambda>") (hl : vs.length < 1000) {cs0 tok rest : List Nat} (hv0 : Chs vs cs0) (hT0 : T0 cs0 tok rest) (hal0 : ∀ c ∈ cs0, c ∈ alpha) (hl0 : cs0.length < 900) (hn00 : 0 ≤ n0) (hn01 : n0 < 1000)
  (hR : ∀ (h' : Heap) (t : Nat) (tt : Tok) (n' : Int) (tn' : Tok) (us : List Value) (e' : Nat), Chs us rest → n' + rest.count 10 = n0 + cs0.count 10 → Keep [dx, S] s.heap h' → Own g h' [(dx, lexD w.params a1 a2 a3 a4 a5 n' tn' f1 l), (S, listOf us.toArray e')] → R (.ok (.ret (.str (strOf tok) tt))) ⟨h', s.gens, s.drawn, t, s.os⟩) :
  codeAny (model P0 w) A (.call (.ref 102) ⟨[.ref x], []⟩) R s := by
  revert hK; k_fill; intro hK; clear hK
  refine enterK (k := 5) (binds := [("self", .ref x)]) B hg O (by k_is) (by k_is) hr (by exact BindsTo.of_eq rfl) (by exact locs rfl) (fun g₁ L h₁ tk gg kp gs fr fr2 hL hlt B₁ F N dA fA gA uA r => ?_)
  obtain ⟨p, loose, mean, mg, mb, T⟩ := B₁.T
  have X := B₁.X
  obtain ⟨pm, ct, hro⟩ := M.ro
  obtain ⟨fx, hff⟩ := M.ff
  subst hro
  walk_at "stm"
  walk_at "stm"
  walk_at "stm"
  with_reducible rename Fr _ _ _ _ => Fx
  with_reducible rename News _ _ _ _ => Nx
  with_reducible rename List.Nodup _ => ndx
  with_reducible rename Addr => q
  refine iter2_K Fx Nx (.head _) ?_
  intro I h5 F5 N5 l5
  have nd5 := nd_cons ndx rfl l5
  clear Fx Nx
  walk_at "stm"
  walk_at "stm"
  refine wpAny_For ?_
  walk_at "stm"
  with_reducible rename Fr _ _ _ _ => Fx
  with_reducible rename News _ _ _ _ => Nx
  refine iter_cit (Nx _ (.head _)).1 ?_
  have hcd₁ : g₁.CodeRec (.ref c2) "_law_stream.<locals>.<lambda>" := coderec_keep hcd kp (fun b hb => by
    have q : ∀ p ∈ [(x, instObj 112 dx), (dx, lexD w.params a1 a2 a3 a4 a5 n0 tn f1 l), (l, listOf #[] e0), (f1, fo), (d, od), (f2, fnRead cell pm c2 ct), (cell, co), (S, listOf vs.toArray e)], ∀ us, p.2.data ≠ Data.fields us := by
      intro p hp us
      simp only [List.mem_cons, List.not_mem_nil, or_false] at hp
      rcases hp with rfl | rfl | rfl | rfl | rfl | rfl | rfl | rfl
      · nofun
      · nofun
      · nofun
      · rw [hff]; nofun
      · obtain ⟨es, ep, hd, _⟩ := M.ns; rw [hd]; nofun
      · nofun
      · rw [M.co]; nofun
      · nofun
    obtain ⟨p, hp, rfl⟩ := List.mem_map.mp hb
    exact ⟨p.2, (O p hp).1, q p hp⟩)
  have fin : ∀ {h' : Heap} {m' : Str → Option Value} {io : Obj} {n' : Int} {tn' : Tok} {us : List Value} {e' : Nat} {tt : Tok} {t : Nat}, Fr g₁ L h' m' → News g₁ L h' ((I, io) :: (q, methodObj (.ref 95) (.ref x)) :: lexN w.params x dx l f1 d f2 cell c2 S a1 a2 a3 a4 a5 fo od co pm ct (listOf #[] e0) n' tn' us e') → Chs us rest → n' + rest.count 10 = n0 + cs0.count 10 → R (.ok (.ret (.str (strOf tok) tt))) ⟨h', s.gens, s.drawn, t, s.os⟩ := fun {h'} {m'} {io} {n'} {tn'} {us} {e'} {tt} {t} F' N' hus hn' => by
    have hx2 := N' _ (.tail _ (.tail _ (.tail _ (.head _))))
    have hx7 := N' _ (.tail _ (.tail _ (.tail _ (.tail _ (.tail _ (.tail _ (.tail _ (.tail _ (.tail _ (.head _))))))))))
    refine hR _ _ _ n' tn' us e' hus hn' (keep_read (X := [(x, instObj 112 dx), (l, listOf #[] e0), (f1, fo), (d, od), (f2, fnRead cell pm c2 ct), (cell, co)]) (G := [(dx, emptyDict), (S, emptyDict)]) (fun b o hb => kp b o fun hm => hb ?_) (fun p hp => O p ?_) F' N' fun p hp => ?_) (Own.cons hx2.1 (gnone gg hx2.2.2) (Own.cons hx7.1 (gnone gg hx7.2.2) Own.nil))
    · simp only [ads, List.cons_append, List.nil_append, List.map_cons, List.map_nil, List.mem_cons, List.not_mem_nil, or_false] at hm ⊢
      grind
    · simp only [List.mem_cons, List.not_mem_nil, or_false] at hp ⊢
      grind
    · simp only [lexN, List.mem_cons, List.not_mem_nil, or_false] at hp ⊢
      grind
  refine codeAny_forLoop (JC20o w s x dx f1 l d f2 cell c2 S a1 a2 a3 a4 a5 n0 fo od co e0 cs0 tok rest g₁ L pm ct q I) ?turn (cs0.length + 1) ?h0 ?ht
  case ht => intro _; rfl
  case h0 =>
    refine' .inl ⟨cs0, n0, tn, vs, e, _, _, none, _, _, rfl, rfl, hv0, hT0, hal0, rfl, hn00, by omega, hl0, Fr.cg Fx ?e1, Nx⟩
    case e1 => walk_at "eqm"
  case turn =>
    clear Fx Nx
    rintro k s' (⟨cs, n, tn, vs, e, ts, t0, xc, h, t, rfl, rfl, hv, hT, hal, hcn, hn0, hn1, hl9, F, N⟩ | ⟨n, tn, e, tt, xc, h, t, rfl, rfl, hre, hcn, F, N⟩)
    rotate_left
    · refine next_ended r.hh (N _ (.head _)).1 (fun h6 k6 => ?_)
      have F6 := Fr.subs F k6
      have N6 := News.subs N k6
      clear F N
      dsimp only [At]
      refine wpAny_execs_nil ?_
      dsimp only
      walk_at "stm"
      walk_at "stms"
      with_reducible rename Fr _ _ _ _ => Fz
      with_reducible rename News _ _ _ _ => Nz
      exact fin Fz Nz (hre ▸ .nil) hcn
    cases hT with
    | stop =>
      have hv1 := hv.inv0
      subst hv1
      refine next_lex_end ⟨rfl, rfl⟩ B₁ (r.less (by omega)) F N nd5 M hcd₁ hn0 (by simp at hn1; omega) (fun h6 t6 e6 tn6 F6 N6 => ?_)
      clear F N
      dsimp only [At]
      refine wpAny_execs_nil ?_
      dsimp only
      walk_at "stm"
      walk_at "stms"
      with_reducible rename Fr _ _ _ _ => Fz
      with_reducible rename News _ _ _ _ => Nz
      exact fin Fz Nz .nil hcn
    | @skip c cs tok rest hws hT =>
      refine next_lex_item ⟨rfl, rfl⟩ B₁ (r.less (by omega)) F N nd5 M hcd₁ hv (by simp at hl9; omega) hn0 (by omega) (fun h6 t6 us u e6 n6 tn6 hv6 hn6 F6 N6 => ?_)
      clear F N
      have hin := ws_in c (hal c (.head _))
      rw [hws] at hin
      dsimp only [At]
      walk_at "stm"
      walk_at "stm"
      walk_at "stms"
      with_reducible rename Fr _ _ _ _ => Fz
      with_reducible rename News _ _ _ _ => Nz
      have lsq1 := line_step hn6 hcn hn0 hn1
      have q1 := lsq1.1
      have q2 := lsq1.2.1
      have q3 := lsq1.2.2
      clear lsq1
      refine' ⟨cs.length + 1, by simp, .inl ⟨cs, n6, tn6, us, e6, ts, t0, some (.str ⟨#[c]⟩ u), _, _, rfl, rfl, hv6, hT, fun y hy => hal y (.tail _ hy), q1, q2, q3, by simp at hl9; omega, Fr.cg Fz ?e1, Nz⟩⟩
      case e1 => walk_at "eqm"
    | @quote cs tok rest hQ =>
      refine next_lex_item ⟨rfl, rfl⟩ B₁ (r.less (by omega)) F N nd5 M hcd₁ hv (by simp at hl9; omega) hn0 (by omega) (fun h6 t6 us u e6 n6 tn6 hv6 hn6 F6 N6 => ?_)
      clear F N
      have hin := ws_in 34 (hal 34 (.head _))
      rw [show isWs 34 = false by decide] at hin
      have lsq1 := line_step hn6 hcn hn0 hn1
      have q1 := lsq1.1
      have q2 := lsq1.2.1
      have q3 := lsq1.2.2
      clear lsq1
      have hqt : (⟨#[34]⟩ : Str) = "\"" := by decide +kernel
      rw [hqt] at hin ⊢
      rw [Bool.not_eq_false'] at hin
      dsimp only [At]
      walk_at "stm"
      walk_at "stm"
      walk_at "stm"
      walk_at "stm"
      refine wpAny_For ?_
      walk_at "stm"
      with_reducible rename Fr _ _ _ _ => Fx
      with_reducible rename News _ _ _ _ => Nx
      refine iter_cit (Nx _ (.head _)).1 ?_
      refine codeAny_forLoop (JC20a w s x dx f1 l d f2 cell c2 S a1 a2 a3 a4 a5 n0 fo od co e0 cs0 tok rest g₁ L pm ct q I) ?turn (cs.length + 1) ?h0 ?ht
      case ht => intro _; rfl
      case h0 =>
        refine' ⟨[], cs, n6, tn6, us, e6, _, _, some (.str "\"" u), _, _, rfl, rfl, hv6, hQ, fun y hy => hal y (.tail _ hy), q1, q2, q3, by simp at hl9 ⊢; omega, Fr.cg Fx ?e1, Nx⟩
        case e1 => walk_at "eqm"
      case turn =>
        clear Fx Nx hv6 hn6 hcn q1 q2 q3 hv hal hl9 hn0 hn1 hQ hin
        rintro k s' ⟨acc, cs, n, tn, vs, e, ts, t0, xc, h, t, rfl, rfl, hv, hT, hal, hcn, hn0, hn1, hl9, F, N⟩
        cases hT with
        | @done _ r0 =>
          refine next_lex_item ⟨rfl, rfl⟩ B₁ (r.less (by omega)) F N nd5 M hcd₁ hv (by simp at hl9; omega) hn0 (by omega) (fun h6 t6 us u e6 n6 tn6 hv6 hn6 F6 N6 => ?_)
          clear F N
          have lsq1 := line_step hn6 hcn hn0 hn1
          have q1 := lsq1.1
          have q2 := lsq1.2.1
          have q3 := lsq1.2.2
          clear lsq1
          rw [hqt]
          dsimp only [At]
          walk_at "stm"
          walk_at "stm"
          walk_at "stms"
          with_reducible rename Fr _ _ _ _ => Fz
          with_reducible rename News _ _ _ _ => Nz
          exact fin Fz Nz hv6 q1
        | @esc _ c cs tok rest hT =>
          refine next_lex_item ⟨rfl, rfl⟩ B₁ (r.less (by omega)) F N nd5 M hcd₁ hv (by simp at hl9; simp; omega) hn0 (by omega) (fun h6 t6 us u e6 n6 tn6 hv6 hn6 F6 N6 => ?_)
          clear F N
          have lsq1 := line_step hn6 hcn hn0 hn1
          have q1 := lsq1.1
          have q2 := lsq1.2.1
          have q3 := lsq1.2.2
          clear lsq1
          have hbt : (⟨#[92]⟩ : Str) = "\\" := by decide +kernel
          rw [hbt]
          dsimp only [At]
          walk_at "stm"
          walk_at "stm"
          walk_at "stms"
          with_reducible rename Fr _ _ _ _ => Fx
          with_reducible rename News _ _ _ _ => Nx
          refine readc_lex ⟨rfl, rfl⟩ B₁ (r.less (by omega)) Fx Nx nd5 M hcd₁ hv6 (by simp at hl9; omega) q2 (by omega) (fun h7 t7 us7 u7 e7 n7 tn7 hv7 hn7 F7 N7 => ?_)
          clear Fx Nx
          have lsq4 := line_step hn7 q1 q2 q3
          have q4 := lsq4.1
          have q5 := lsq4.2.1
          have q6 := lsq4.2.2
          clear lsq4
          dsimp only [At]
          walk_at "stm"
          walk_at "stms"
          refine iadd_str (fun tt tk9 => ?_) ?hsz
          case hsz => simp at hl9; show acc.toArray.size + 1 ≤ sizeLine; rw [List.size_toArray]; exact Nat.le_trans (show acc.length + 1 ≤ 1000 by omega) (by decide)
          rw [strOf_snoc]
          walk_at "stms"
          with_reducible rename Fr _ _ _ _ => Fz
          with_reducible rename News _ _ _ _ => Nz
          refine' ⟨cs.length + 1, by simp, acc ++ [c], cs, n7, tn7, us7, e7, ts, tt, some (.str ⟨#[c]⟩ u7), _, _, rfl, rfl, hv7, hT, fun y hy => hal y (.tail _ (.tail _ hy)), q4, q5, q6, by simp at hl9 ⊢; omega, Fr.cg Fz ?e1, Nz⟩
          case e1 => walk_at "eqm"
        | @plain _ c cs tok rest h1 h2 hT =>
          refine next_lex_item ⟨rfl, rfl⟩ B₁ (r.less (by omega)) F N nd5 M hcd₁ hv (by simp at hl9; omega) hn0 (by omega) (fun h6 t6 us u e6 n6 tn6 hv6 hn6 F6 N6 => ?_)
          clear F N
          have lsq1 := line_step hn6 hcn hn0 hn1
          have q1 := lsq1.1
          have q2 := lsq1.2.1
          have q3 := lsq1.2.2
          clear lsq1
          have hbt : (⟨#[92]⟩ : Str) = "\\" := by decide +kernel
          have g1 : ¬ (⟨#[c]⟩ : Str) = "\"" := fun e => h1 (str_inj1 (e.trans hqt.symm))
          have g2 : ¬ (⟨#[c]⟩ : Str) = "\\" := fun e => h2 (str_inj1 (e.trans hbt.symm))
          dsimp only [At]
          walk_at "stm"
          walk_at "stm"
          walk_at "stms"
          refine iadd_str (fun tt tk9 => ?_) ?hsz
          case hsz => simp at hl9; show acc.toArray.size + 1 ≤ sizeLine; rw [List.size_toArray]; exact Nat.le_trans (show acc.length + 1 ≤ 1000 by omega) (by decide)
          rw [strOf_snoc]
          walk_at "stms"
          with_reducible rename Fr _ _ _ _ => Fz
          with_reducible rename News _ _ _ _ => Nz
          refine' ⟨cs.length + 1, by simp, acc ++ [c], cs, n6, tn6, us, e6, ts, tt, some (.str ⟨#[c]⟩ u), _, _, rfl, rfl, hv6, hT, fun y hy => hal y (.tail _ hy), q1, q2, q3, by simp at hl9 ⊢; omega, Fr.cg Fz ?e1, Nz⟩
          case e1 => walk_at "eqm"
    | @esc c cs tok rest b hB =>
      refine next_lex_item ⟨rfl, rfl⟩ B₁ (r.less (by omega)) F N nd5 M hcd₁ hv (by simp at hl9; simp; omega) hn0 (by omega) (fun h6 t6 us u e6 n6 tn6 hv6 hn6 F6 N6 => ?_)
      clear F N
      have hin := ws_in 92 (hal 92 (.head _))
      rw [show isWs 92 = false by decide] at hin
      have lsq1 := line_step hn6 hcn hn0 hn1
      have q1 := lsq1.1
      have q2 := lsq1.2.1
      have q3 := lsq1.2.2
      clear lsq1
      have hbt : (⟨#[92]⟩ : Str) = "\\" := by decide +kernel
      rw [hbt] at hin ⊢
      rw [Bool.not_eq_false'] at hin
      dsimp only [At]
      walk_at "stm"
      walk_at "stm"
      walk_at "stm"
      walk_at "stm"
      walk_at "stms"
      with_reducible rename Fr _ _ _ _ => Fx
      with_reducible rename News _ _ _ _ => Nx
      refine readc_lex ⟨rfl, rfl⟩ B₁ (r.less (by omega)) Fx Nx nd5 M hcd₁ hv6 (by simp at hl9; omega) q2 (by omega) (fun h7 t7 us7 u7 e7 n7 tn7 hv7 hn7 F7 N7 => ?_)
      clear Fx Nx
      have lsq4 := line_step hn7 q1 q2 q3
      have q4 := lsq4.1
      have q5 := lsq4.2.1
      have q6 := lsq4.2.2
      clear lsq4
      dsimp only [At]
      walk_at "stm"
      walk_at "stms"
      refine wpAny_For ?_
      walk_at "stm"
      with_reducible rename Fr _ _ _ _ => Fx
      with_reducible rename News _ _ _ _ => Nx
      rw [em_snoc] at Fx
      refine iter_cit (Nx _ (.head _)).1 ?_
      refine codeAny_forLoop (JC20b w s x dx f1 l d f2 cell c2 S a1 a2 a3 a4 a5 n0 fo od co e0 cs0 tok rest g₁ L pm ct q I b) ?turn (cs.length + 1) ?h0 ?ht
      case ht => intro _; rfl
      case h0 =>
        refine' ⟨[c], cs, n7, tn7, us7, e7, _, _, some (.str ⟨#[c]⟩ u7), _, _, rfl, rfl, hv7, hB, fun y hy => hal y (.tail _ (.tail _ hy)), q4, q5, q6, by simp at hl9 ⊢; omega, Fr.cg Fx ?e1, Nx⟩
        case e1 => walk_at "eqm"
      case turn =>
        clear Fx Nx hv6 hv7 hn6 hn7 hcn q1 q2 q3 q4 q5 q6 hin hv hal hl9 hn0 hn1 hB
        rintro k s' ⟨acc, cs, n, tn, vs, e, ts, t0, xc, h, t, rfl, rfl, hv, hT, hal, hcn, hn0, hn1, hl9, F, N⟩
        cases hT with
        | stop =>
          have hv1 := hv.inv0
          subst hv1
          refine next_lex_end ⟨rfl, rfl⟩ B₁ (r.less (by omega)) F N nd5 M hcd₁ hn0 (by simp at hn1; omega) (fun h6 t6 e6 tn6 F6 N6 => ?_)
          clear F N
          dsimp only [At]
          refine wpAny_execs_nil ?_
          dsimp only
          walk_at "stm"
          with_reducible rename Fr _ _ _ _ => Fz
          with_reducible rename News _ _ _ _ => Nz
          refine' ⟨0, by simp, .inr ⟨n, tn6, e6, _, xc, _, _, rfl, rfl, rfl, hcn, Fr.cg Fz ?e1, Nz⟩⟩
          case e1 => walk_at "eqm"
        | @done _ c r0 hws =>
          refine next_lex_item ⟨rfl, rfl⟩ B₁ (r.less (by omega)) F N nd5 M hcd₁ hv (by simp at hl9; omega) hn0 (by omega) (fun h6 t6 us u e6 n6 tn6 hv6 hn6 F6 N6 => ?_)
          clear F N
          have hin := ws_in c (hal c (.head _))
          rw [hws] at hin
          have lsq1 := line_step hn6 hcn hn0 hn1
          have q1 := lsq1.1
          have q2 := lsq1.2.1
          have q3 := lsq1.2.2
          clear lsq1
          dsimp only [At]
          walk_at "stm"
          walk_at "stm"
          walk_at "stms"
          with_reducible rename Fr _ _ _ _ => Fz
          with_reducible rename News _ _ _ _ => Nz
          exact fin Fz Nz hv6 q1
        | @esc _ c cs tok rest b hT =>
          refine next_lex_item ⟨rfl, rfl⟩ B₁ (r.less (by omega)) F N nd5 M hcd₁ hv (by simp at hl9; simp; omega) hn0 (by omega) (fun h6 t6 us u e6 n6 tn6 hv6 hn6 F6 N6 => ?_)
          clear F N
          have hin := ws_in 92 (hal 92 (.head _))
          rw [show isWs 92 = false by decide] at hin
          have lsq1 := line_step hn6 hcn hn0 hn1
          have q1 := lsq1.1
          have q2 := lsq1.2.1
          have q3 := lsq1.2.2
          clear lsq1
          rw [hbt] at hin ⊢
          rw [Bool.not_eq_false'] at hin
          dsimp only [At]
          walk_at "stm"
          walk_at "stm"
          walk_at "stms"
          with_reducible rename Fr _ _ _ _ => Fx
          with_reducible rename News _ _ _ _ => Nx
          refine readc_lex ⟨rfl, rfl⟩ B₁ (r.less (by omega)) Fx Nx nd5 M hcd₁ hv6 (by simp at hl9; omega) q2 (by omega) (fun h7 t7 us7 u7 e7 n7 tn7 hv7 hn7 F7 N7 => ?_)
          clear Fx Nx
          have lsq4 := line_step hn7 q1 q2 q3
          have q4 := lsq4.1
          have q5 := lsq4.2.1
          have q6 := lsq4.2.2
          clear lsq4
          dsimp only [At]
          walk_at "stm"
          walk_at "stms"
          refine iadd_str (fun tt tk9 => ?_) ?hsz
          case hsz => simp at hl9; show acc.toArray.size + 1 ≤ sizeLine; rw [List.size_toArray]; exact Nat.le_trans (show acc.length + 1 ≤ 1000 by omega) (by decide)
          rw [strOf_snoc]
          walk_at "stms"
          with_reducible rename Fr _ _ _ _ => Fz
          with_reducible rename News _ _ _ _ => Nz
          refine' ⟨cs.length + 1, by simp, acc ++ [c], cs, n7, tn7, us7, e7, ts, tt, some (.str ⟨#[c]⟩ u7), _, _, rfl, rfl, hv7, hT, fun y hy => hal y (.tail _ (.tail _ hy)), q4, q5, q6, by simp at hl9 ⊢; omega, Fr.cg Fz ?e1, Nz⟩
          case e1 => walk_at "eqm"
        | @plain _ c cs tok rest b h1 h2 hT =>
          refine next_lex_item ⟨rfl, rfl⟩ B₁ (r.less (by omega)) F N nd5 M hcd₁ hv (by simp at hl9; omega) hn0 (by omega) (fun h6 t6 us u e6 n6 tn6 hv6 hn6 F6 N6 => ?_)
          clear F N
          have hin := ws_in c (hal c (.head _))
          rw [h1, Bool.not_eq_false'] at hin
          have lsq1 := line_step hn6 hcn hn0 hn1
          have q1 := lsq1.1
          have q2 := lsq1.2.1
          have q3 := lsq1.2.2
          clear lsq1
          have g2 : ¬ (⟨#[c]⟩ : Str) = "\\" := fun e => h2 (str_inj1 (e.trans hbt.symm))
          dsimp only [At]
          walk_at "stm"
          walk_at "stm"
          walk_at "stms"
          refine iadd_str (fun tt tk9 => ?_) ?hsz
          case hsz => simp at hl9; show acc.toArray.size + 1 ≤ sizeLine; rw [List.size_toArray]; exact Nat.le_trans (show acc.length + 1 ≤ 1000 by omega) (by decide)
          rw [strOf_snoc]
          walk_at "stms"
          with_reducible rename Fr _ _ _ _ => Fz
          with_reducible rename News _ _ _ _ => Nz
          refine' ⟨cs.length + 1, by simp, acc ++ [c], cs, n6, tn6, us, e6, ts, tt, some (.str ⟨#[c]⟩ u), _, _, rfl, rfl, hv6, hT, fun y hy => hal y (.tail _ hy), q1, q2, q3, by simp at hl9 ⊢; omega, Fr.cg Fz ?e1, Nz⟩
          case e1 => walk_at "eqm"
    | @bare c cs tok rest b h1 h2 h3 hB =>
      refine next_lex_item ⟨rfl, rfl⟩ B₁ (r.less (by omega)) F N nd5 M hcd₁ hv (by simp at hl9; omega) hn0 (by omega) (fun h6 t6 us u e6 n6 tn6 hv6 hn6 F6 N6 => ?_)
      clear F N
      have hin := ws_in c (hal c (.head _))
      rw [h1, Bool.not_eq_false'] at hin
      have lsq1 := line_step hn6 hcn hn0 hn1
      have q1 := lsq1.1
      have q2 := lsq1.2.1
      have q3 := lsq1.2.2
      clear lsq1
      have hqt : (⟨#[34]⟩ : Str) = "\"" := by decide +kernel
      have hbt : (⟨#[92]⟩ : Str) = "\\" := by decide +kernel
      have g1 : ¬ (⟨#[c]⟩ : Str) = "\"" := fun e => h2 (str_inj1 (e.trans hqt.symm))
      have g2 : ¬ (⟨#[c]⟩ : Str) = "\\" := fun e => h3 (str_inj1 (e.trans hbt.symm))
      dsimp only [At]
      walk_at "stm"
      walk_at "stm"
      walk_at "stm"
      walk_at "stm"
      walk_at "stms"
      refine wpAny_For ?_
      walk_at "stm"
      with_reducible rename Fr _ _ _ _ => Fx
      with_reducible rename News _ _ _ _ => Nx
      rw [em_snoc] at Fx
      refine iter_cit (Nx _ (.head _)).1 ?_
      refine codeAny_forLoop (JC20c w s x dx f1 l d f2 cell c2 S a1 a2 a3 a4 a5 n0 fo od co e0 cs0 tok rest g₁ L pm ct q I b) ?turn (cs.length + 1) ?h0 ?ht
      case ht => intro _; rfl
      case h0 =>
        refine' ⟨[c], cs, n6, tn6, us, e6, _, _, some (.str ⟨#[c]⟩ u), _, _, rfl, rfl, hv6, hB, fun y hy => hal y (.tail _ hy), q1, q2, q3, by simp at hl9 ⊢; omega, Fr.cg Fx ?e1, Nx⟩
        case e1 => walk_at "eqm"
      case turn =>
        clear Fx Nx hv6 hn6 hcn q1 q2 q3 hin hv hal hl9 hn0 hn1 hB
        rintro k s' ⟨acc, cs, n, tn, vs, e, ts, t0, xc, h, t, rfl, rfl, hv, hT, hal, hcn, hn0, hn1, hl9, F, N⟩
        cases hT with
        | stop =>
          have hv1 := hv.inv0
          subst hv1
          refine next_lex_end ⟨rfl, rfl⟩ B₁ (r.less (by omega)) F N nd5 M hcd₁ hn0 (by simp at hn1; omega) (fun h6 t6 e6 tn6 F6 N6 => ?_)
          clear F N
          dsimp only [At]
          refine wpAny_execs_nil ?_
          dsimp only
          walk_at "stm"
          with_reducible rename Fr _ _ _ _ => Fz
          with_reducible rename News _ _ _ _ => Nz
          refine' ⟨0, by simp, .inr ⟨n, tn6, e6, _, xc, _, _, rfl, rfl, rfl, hcn, Fr.cg Fz ?e1, Nz⟩⟩
          case e1 => walk_at "eqm"
        | @done _ c r0 hws =>
          refine next_lex_item ⟨rfl, rfl⟩ B₁ (r.less (by omega)) F N nd5 M hcd₁ hv (by simp at hl9; omega) hn0 (by omega) (fun h6 t6 us u e6 n6 tn6 hv6 hn6 F6 N6 => ?_)
          clear F N
          have hin := ws_in c (hal c (.head _))
          rw [hws] at hin
          have lsq1 := line_step hn6 hcn hn0 hn1
          have q1 := lsq1.1
          have q2 := lsq1.2.1
          have q3 := lsq1.2.2
          clear lsq1
          dsimp only [At]
          walk_at "stm"
          walk_at "stm"
          walk_at "stms"
          with_reducible rename Fr _ _ _ _ => Fz
          with_reducible rename News _ _ _ _ => Nz
          exact fin Fz Nz hv6 q1
        | @esc _ c cs tok rest b hT =>
          refine next_lex_item ⟨rfl, rfl⟩ B₁ (r.less (by omega)) F N nd5 M hcd₁ hv (by simp at hl9; simp; omega) hn0 (by omega) (fun h6 t6 us u e6 n6 tn6 hv6 hn6 F6 N6 => ?_)
          clear F N
          have hin := ws_in 92 (hal 92 (.head _))
          rw [show isWs 92 = false by decide] at hin
          have lsq1 := line_step hn6 hcn hn0 hn1
          have q1 := lsq1.1
          have q2 := lsq1.2.1
          have q3 := lsq1.2.2
          clear lsq1
          rw [hbt] at hin ⊢
          rw [Bool.not_eq_false'] at hin
          dsimp only [At]
          walk_at "stm"
          walk_at "stm"
          walk_at "stms"
          with_reducible rename Fr _ _ _ _ => Fx
          with_reducible rename News _ _ _ _ => Nx
          refine readc_lex ⟨rfl, rfl⟩ B₁ (r.less (by omega)) Fx Nx nd5 M hcd₁ hv6 (by simp at hl9; omega) q2 (by omega) (fun h7 t7 us7 u7 e7 n7 tn7 hv7 hn7 F7 N7 => ?_)
          clear Fx Nx
          have lsq4 := line_step hn7 q1 q2 q3
          have q4 := lsq4.1
          have q5 := lsq4.2.1
          have q6 := lsq4.2.2
          clear lsq4
          dsimp only [At]
          walk_at "stm"
          walk_at "stms"
          refine iadd_str (fun tt tk9 => ?_) ?hsz
          case hsz => simp at hl9; show acc.toArray.size + 1 ≤ sizeLine; rw [List.size_toArray]; exact Nat.le_trans (show acc.length + 1 ≤ 1000 by omega) (by decide)
          rw [strOf_snoc]
          walk_at "stms"
          with_reducible rename Fr _ _ _ _ => Fz
          with_reducible rename News _ _ _ _ => Nz
          refine' ⟨cs.length + 1, by simp, acc ++ [c], cs, n7, tn7, us7, e7, ts, tt, some (.str ⟨#[c]⟩ u7), _, _, rfl, rfl, hv7, hT, fun y hy => hal y (.tail _ (.tail _ hy)), q4, q5, q6, by simp at hl9 ⊢; omega, Fr.cg Fz ?e1, Nz⟩
          case e1 => walk_at "eqm"
        | @plain _ c cs tok rest b h1 h2 hT =>
          refine next_lex_item ⟨rfl, rfl⟩ B₁ (r.less (by omega)) F N nd5 M hcd₁ hv (by simp at hl9; omega) hn0 (by omega) (fun h6 t6 us u e6 n6 tn6 hv6 hn6 F6 N6 => ?_)
          clear F N
          have hin := ws_in c (hal c (.head _))
          rw [h1, Bool.not_eq_false'] at hin
          have lsq1 := line_step hn6 hcn hn0 hn1
          have q1 := lsq1.1
          have q2 := lsq1.2.1
          have q3 := lsq1.2.2
          clear lsq1
          have g2 : ¬ (⟨#[c]⟩ : Str) = "\\" := fun e => h2 (str_inj1 (e.trans hbt.symm))
          dsimp only [At]
          walk_at "stm"
          walk_at "stm"
          walk_at "stms"
          refine iadd_str (fun tt tk9 => ?_) ?hsz
          case hsz => simp at hl9; show acc.toArray.size + 1 ≤ sizeLine; rw [List.size_toArray]; exact Nat.le_trans (show acc.length + 1 ≤ 1000 by omega) (by decide)
          rw [strOf_snoc]
          walk_at "stms"
          with_reducible rename Fr _ _ _ _ => Fz
          with_reducible rename News _ _ _ _ => Nz
          refine' ⟨cs.length + 1, by simp, acc ++ [c], cs, n6, tn6, us, e6, ts, tt, some (.str ⟨#[c]⟩ u), _, _, rfl, rfl, hv6, hT, fun y hy => hal y (.tail _ hy), q1, q2, q3, by simp at hl9 ⊢; omega, Fr.cg Fz ?e1, Nz⟩
          case e1 => walk_at "eqm"
end
section
example : True := by w_top off; trivial
/-- a word as the law writes it -/
def wrBare (w : List Nat) : List Nat := w.flatMap fun c => [92, c]
def escOf (c : Nat) : List Nat := if c = 34 ∨ c = 92 then [92, c] else [c]
def wrQuo (w : List Nat) : List Nat := 34 :: (w.flatMap escOf ++ [34])
def wr (w : List Nat) (b : Nat) : List Nat := if b = 1 ∧ w ≠ [] then wrBare w else wrQuo w
theorem esc_in : ∀ c ∈ alpha, (!(Builtin.Str.occurrences "\"\\" ⟨#[c]⟩ 0 ("\"\\" : Str).length 1).isEmpty) = decide (c = 34 ∨ c = 92) := by decide +kernel
theorem StrsAre.snoc {vs : List Value} {ys : List Str} {y : Str} {u : Tok} (h : StrsAre vs ys) : StrsAre (vs ++ [.str y u]) (ys ++ [y]) := by
  induction h with
  | nil => exact .cons _ _ .nil
  | cons y t r ih => exact .cons y t ih
theorem take_snoc' {α : Type} {l : List α} {i : Nat} {c : α} (h : l[i]? = some c) : l.take (i + 1) = l.take i ++ [c] := by
  rw [List.take_add_one, h]; rfl
theorem str_app (a b : List Nat) : strOf a ++ strOf b = strOf (a ++ b) := by
  show (⟨a.toArray ++ b.toArray⟩ : Str) = _
  unfold strOf
  congr 1
  simp
theorem join_str (sep : Str) : ∀ ys : List Str, Txt.join sep ys = Str.join sep ys := by
  intro ys
  exact eq_of_beq (join_closes rfl)
theorem join_flat (f : Nat → List Nat) : ∀ cs : List Nat, Str.join ⟨#[]⟩ (cs.map fun c => strOf (f c)) = strOf (cs.flatMap f)
  | [] => rfl
  | [c] => by simp [Str.join]
  | c :: d :: r => by
    have ih := join_flat f (d :: r)
    rw [List.map_cons, List.flatMap_cons, ← str_app, ← ih]
    show strOf (f c) ++ (⟨#[]⟩ : Str) ++ _ = _
    congr 1
theorem wr_len (f : Nat → List Nat) (hf : ∀ c, (f c).length ≤ 2) : ∀ cs : List Nat, ((cs.map fun c => strOf (f c)).map (·.length)).sum ≤ 2 * cs.length := by
  intro cs
  induction cs with
  | nil => exact Nat.le_refl _
  | cons c cs ih =>
    rw [List.map_cons, List.map_cons, List.sum_cons, List.length_cons]
    have h1 : (strOf (f c)).length = (f c).length := List.size_toArray ..
    have := hf c
    omega
theorem escOf_len (c : Nat) : (escOf c).length ≤ 2 := by unfold escOf; split <;> simp
theorem flat_len (f : Nat → List Nat) (hf : ∀ c, (f c).length ≤ 2) : ∀ cs : List Nat, (cs.flatMap f).length ≤ 2 * cs.length := by
  intro cs
  induction cs with
  | nil => exact Nat.le_refl _
  | cons c cs ih => rw [List.flatMap_cons, List.length_append, List.length_cons]; have := hf c; omega
theorem alpha_asc {cs : List Nat} (h : ∀ c ∈ cs, c ∈ alpha) : (strOf cs).cps.all (· < 128) = true := by
  have ha : ∀ c ∈ alpha, c < 128 := by decide
  simp only [strOf, List.all_toArray, List.all_eq_true, decide_eq_true_eq]
  exact fun c hc => ha c (h c hc)
theorem StrsAre.len {vs : List Value} {ys : List Str} (h : StrsAre vs ys) : vs.length = ys.length := by
  induction h with
  | nil => rfl
  | cons y t r ih => rw [List.length_cons, List.length_cons, ih]
theorem str_lit1 (c : Nat) (z : Str) (h : z = ⟨#[c]⟩) : z = strOf [c] := h
theorem law_written_ok (hK : PySem.Challenge.rw_pg0241_01 = PySem.Challenge.rw_pg0241_01 ∧ heapK = heapK) {w : World} {A : Around} {R : Result → Shared → Prop} {s : Shared} {g : Heap} {cs : List Nat} {tw tb : Tok} {b : Nat}
  (B : Bs w g) (hg : Sub g s.heap) (hr : Rm A 1) (hal : ∀ c ∈ cs, c ∈ alpha) (hl : cs.length ≤ 100) (hb : b < 2)
  (hR : ∀ h' t tv, Sub s.heap h' → R (.ok (.ret (.str (strOf (wr cs b)) tv))) ⟨h', s.gens, s.drawn, t, s.os⟩) :
  codeAny (model P0 w) A (.call (.ref 128) ⟨[.str (strOf cs) tw, .int b tb], []⟩) R s := by
  revert hK; k_fill; intro hK; clear hK
  refine enterK (k := 0) (own := []) (binds := [("word", .str (strOf cs) tw), ("bare", .int b tb)]) B hg Own.nil (by k_is) (by k_is) hr (by exact BindsTo.of_eq rfl) (by exact locs rfl) (fun g₁ L h₁ tk gg kp gs fr fr2 hL hlt B₁ F N dA fA gA uA r => ?_)
  obtain ⟨p, loose, mean, mg, mb, T⟩ := B₁.T
  have X := B₁.X
  have hlc : (strOf cs).length = cs.length := List.size_toArray ..
  by_cases hq : b = 1 ∧ cs ≠ []
  · obtain ⟨rfl, hne⟩ := hq
    walk_at "stm"
    · skip
      walk_at "stms"
      refine compE (cl := []) (by rfl) (by decide) rfl (by decide) (by decide) ?_
      walk_at "stms"
      with_reducible rename Fr _ _ _ _ => Fx
      with_reducible rename News _ _ _ _ => Nx
      refine iterStr Fx Nx (alpha_asc hal) (fun I h2 o0 F2 N2 l2 hit0 => ?_)
      refine compG_str (L := L) r.hh rfl B₁ F2 N2 (by simp) hit0 (fun i ys G => G = [] ∧ StrsAre ys ((cs.take i).map fun c => strOf ((fun c => [92, c]) c))) ⟨rfl, .nil⟩ (fun i ys G hj => ?_) (fun g₂ C D i v ys G o' e h t m' gg₂ B₂ hi hP hj F3 N3 nd3 => ?_) (fun D ys G e h t hj F3 N3 nd3 => ?_)
      · rw [StrsAre.len hj.2, List.length_map, List.length_take]; omega
      · obtain ⟨c, u, hc, rfl⟩ := hP
        obtain ⟨rfl, hs⟩ := hj
        refine wpAny_tests_nil ?_
        rw [if_pos rfl]
        clear Fx Nx F2 N2
        have hcm := hal c (List.mem_of_getElem? (by simpa [strOf] using hc))
        have hci : cs[i]? = some c := by simpa [strOf] using hc
        walk_at "stms"
        refine ⟨_, _, _, [], rfl, F3, N3, nd3, rfl, ?_⟩
        rw [take_snoc' hci, List.map_append]
        exact StrsAre.snoc hs
      · obtain ⟨rfl, hs⟩ := hj
        clear Fx Nx F2 N2
        rw [List.take_of_length_le (by simp [strOf])] at hs
        dsimp only [At]
        walk_at "stms"
        have hw : ((cs.map fun c => strOf ((fun c => [92, c]) c)).map (·.length)).sum ≤ 2 * cs.length := wr_len (fun c => [92, c]) (fun c => Nat.le_refl _) cs
        refine join_list (News.isList N3 (.head _)) hs (by rw [List.length_map]; show _ + _ * (0 : Nat) ≤ _; omega) (fun t7 k7 => ?_)
        rw [join_str, show Str.ofString "" = ⟨#[]⟩ from em_eq, join_flat]
        have hfl := flat_len (fun c => [92, c]) (fun c => Nat.le_refl _) cs
        have hfl2 : (strOf (cs.flatMap (fun c => [92, c]))).length = (cs.flatMap (fun c => [92, c])).length := List.size_toArray ..
        walk_at "stms"
        rw [show wr cs 1 = cs.flatMap fun c => [92, c] from if_pos ⟨rfl, hne⟩] at hR
        exact hR _ _ _ fun b o e => F3.keep b o (kp b o List.not_mem_nil e)
    · exfalso
      with_reducible rename ((strOf cs).length : Int) = 0 => hz
      rw [hlc] at hz
      exact hne (List.length_eq_zero_iff.mp (by omega))
  · obtain rfl | ⟨rfl, hcs⟩ : b = 0 ∨ (b = 1 ∧ cs = []) := by
      by_cases h1 : b = 1
      · exact .inr ⟨h1, Classical.byContradiction fun h2 => hq ⟨h1, h2⟩⟩
      · exact .inl (by omega)
    · walk_at "stm"
      walk_at "stms"
      refine compE (cl := []) (by rfl) (by decide) rfl (by decide) (by decide) ?_
      walk_at "stms"
      with_reducible rename Fr _ _ _ _ => Fx
      with_reducible rename News _ _ _ _ => Nx
      refine iterStr Fx Nx (alpha_asc hal) (fun I h2 o0 F2 N2 l2 hit0 => ?_)
      refine compG_str (L := L) r.hh rfl B₁ F2 N2 (by simp) hit0 (fun i ys G => G = [] ∧ StrsAre ys ((cs.take i).map fun c => strOf (escOf c))) ⟨rfl, .nil⟩ (fun i ys G hj => ?_) (fun g₂ C D i v ys G o' e h t m' gg₂ B₂ hi hP hj F3 N3 nd3 => ?_) (fun D ys G e h t hj F3 N3 nd3 => ?_)
      · rw [StrsAre.len hj.2, List.length_map, List.length_take]; omega
      · obtain ⟨c, u, hc, rfl⟩ := hP
        obtain ⟨rfl, hs⟩ := hj
        refine wpAny_tests_nil ?_
        rw [if_pos rfl]
        clear Fx Nx F2 N2
        have hcm := hal c (List.mem_of_getElem? (by simpa [strOf] using hc))
        have hci : cs[i]? = some c := by simpa [strOf] using hc
        have hin := esc_in c hcm
        by_cases hc3 : c = 34 ∨ c = 92
        · rw [decide_eq_true hc3] at hin
          walk_at "stms"
          refine ⟨_, _, _, [], rfl, F3, N3, nd3, rfl, ?_⟩
          rw [take_snoc' hci, List.map_append, List.map_singleton, show escOf c = [92, c] from if_pos hc3]
          exact StrsAre.snoc hs
        · rw [decide_eq_false hc3] at hin
          walk_at "stms"
          refine ⟨_, _, _, [], rfl, F3, N3, nd3, rfl, ?_⟩
          rw [take_snoc' hci, List.map_append, List.map_singleton, show escOf c = [c] from if_neg hc3]
          exact StrsAre.snoc hs
      · obtain ⟨rfl, hs⟩ := hj
        clear Fx Nx F2 N2
        rw [List.take_of_length_le (by simp [strOf])] at hs
        dsimp only [At]
        walk_at "stms"
        have hw := wr_len escOf (escOf_len) cs
        refine join_list (News.isList N3 (.head _)) hs (by rw [List.length_map]; show _ + _ * (0 : Nat) ≤ _; omega) (fun t7 k7 => ?_)
        rw [join_str, show Str.ofString "" = ⟨#[]⟩ from em_eq, join_flat]
        have hfl := flat_len escOf (escOf_len) cs
        have hfl2 : (strOf (cs.flatMap escOf)).length = (cs.flatMap escOf).length := List.size_toArray ..
        walk_at "stms"
        rw [show Str.ofString "\"" = strOf [34] from by decide +kernel, str_app, str_app]
        rw [show wr cs 0 = [34] ++ cs.flatMap escOf ++ [34] from if_neg hq] at hR
        exact hR _ _ _ fun b o e => F3.keep b o (kp b o List.not_mem_nil e)
    · walk_at "stm"
      · exfalso
        with_reducible rename ((strOf cs).length : Int) ≠ 0 => hz
        rw [hlc, hcs] at hz
        exact hz rfl
      walk_at "stms"
      refine compE (cl := []) (by rfl) (by decide) rfl (by decide) (by decide) ?_
      walk_at "stms"
      with_reducible rename Fr _ _ _ _ => Fx
      with_reducible rename News _ _ _ _ => Nx
      refine iterStr Fx Nx (alpha_asc hal) (fun I h2 o0 F2 N2 l2 hit0 => ?_)
      refine compG_str (L := L) r.hh rfl B₁ F2 N2 (by simp) hit0 (fun i ys G => G = [] ∧ StrsAre ys ((cs.take i).map fun c => strOf (escOf c))) ⟨rfl, .nil⟩ (fun i ys G hj => ?_) (fun g₂ C D i v ys G o' e h t m' gg₂ B₂ hi hP hj F3 N3 nd3 => ?_) (fun D ys G e h t hj F3 N3 nd3 => ?_)
      · rw [StrsAre.len hj.2, List.length_map, List.length_take]; omega
      · obtain ⟨c, u, hc, rfl⟩ := hP
        obtain ⟨rfl, hs⟩ := hj
        refine wpAny_tests_nil ?_
        rw [if_pos rfl]
        clear Fx Nx F2 N2
        have hcm := hal c (List.mem_of_getElem? (by simpa [strOf] using hc))
        have hci : cs[i]? = some c := by simpa [strOf] using hc
        have hin := esc_in c hcm
        by_cases hc3 : c = 34 ∨ c = 92
        · rw [decide_eq_true hc3] at hin
          walk_at "stms"
          refine ⟨_, _, _, [], rfl, F3, N3, nd3, rfl, ?_⟩
          rw [take_snoc' hci, List.map_append, List.map_singleton, show escOf c = [92, c] from if_pos hc3]
          exact StrsAre.snoc hs
        · rw [decide_eq_false hc3] at hin
          walk_at "stms"
          refine ⟨_, _, _, [], rfl, F3, N3, nd3, rfl, ?_⟩
          rw [take_snoc' hci, List.map_append, List.map_singleton, show escOf c = [c] from if_neg hc3]
          exact StrsAre.snoc hs
      · obtain ⟨rfl, hs⟩ := hj
        clear Fx Nx F2 N2
        rw [List.take_of_length_le (by simp [strOf])] at hs
        dsimp only [At]
        walk_at "stms"
        have hw := wr_len escOf (escOf_len) cs
        refine join_list (News.isList N3 (.head _)) hs (by rw [List.length_map]; show _ + _ * (0 : Nat) ≤ _; omega) (fun t7 k7 => ?_)
        rw [join_str, show Str.ofString "" = ⟨#[]⟩ from em_eq, join_flat]
        have hfl := flat_len escOf (escOf_len) cs
        have hfl2 : (strOf (cs.flatMap escOf)).length = (cs.flatMap escOf).length := List.size_toArray ..
        walk_at "stms"
        rw [show Str.ofString "\"" = strOf [34] from by decide +kernel, str_app, str_app]
        rw [show wr cs 1 = [34] ++ cs.flatMap escOf ++ [34] from if_neg hq] at hR
        exact hR _ _ _ fun b o e => F3.keep b o (kp b o List.not_mem_nil e)
end
section
example : True := by w_top off; trivial
/-! the law's text, plain -/
def lett (i : Nat) : Nat := [97, 32, 92, 34, 10, 98, 9, 35].getD i 0
def wordOf (v : Nat) : List Nat := if h : v = 0 then [] else lett (v % 8) :: wordOf (v / 8)
termination_by v
decreasing_by omega
theorem wordOf_zero : wordOf 0 = [] := by rw [wordOf]; rfl
theorem wordOf_pos {v : Nat} (h : 0 < v) : wordOf v = lett (v % 8) :: wordOf (v / 8) := by
  rw [wordOf, dif_neg (by omega)]
theorem lett_alpha (i : Nat) (h : i < 8) : lett i ∈ alpha := by
  have : ∀ j : Fin 8, lett j.val ∈ alpha := by decide
  exact this ⟨i, h⟩
theorem wordOf_alpha (v : Nat) : ∀ c ∈ wordOf v, c ∈ alpha := by
  induction v using Nat.strongRecOn with
  | ind v ih =>
    by_cases h : v = 0
    · subst h; rw [wordOf_zero]; intro c hc; cases hc
    · rw [wordOf_pos (by omega)]
      intro c hc
      rcases List.mem_cons.mp hc with rfl | hc
      · exact lett_alpha _ (Nat.mod_lt _ (by decide))
      · exact ih (v / 8) (by omega) c hc
theorem wordOf_len {v k : Nat} (h : v < 8 ^ k) : (wordOf v).length ≤ k := by
  induction k generalizing v with
  | zero => have : v = 0 := by simpa using h
            subst this; rw [wordOf_zero]; simp
  | succ k ih =>
    by_cases h0 : v = 0
    · subst h0; rw [wordOf_zero]; simp
    · rw [wordOf_pos (by omega), List.length_cons]
      have := ih (v := v / 8) (by rw [Nat.pow_succ] at h; omega)
      omega
theorem lett_inj {i j : Nat} (hi : i < 8) (hj : j < 8) (h : lett i = lett j) : i = j := by
  have : ∀ a b : Fin 8, lett a.val = lett b.val → a.val = b.val := by decide
  exact this ⟨i, hi⟩ ⟨j, hj⟩ h
theorem wordOf_inj : ∀ {v u : Nat}, wordOf v = wordOf u → v = u := by
  intro v
  induction v using Nat.strongRecOn with
  | ind v ih =>
    intro u h
    by_cases h0 : v = 0
    · subst h0
      by_cases h1 : u = 0
      · exact h1.symm
      · rw [wordOf_zero, wordOf_pos (by omega)] at h; cases h
    · by_cases h1 : u = 0
      · subst h1; rw [wordOf_zero, wordOf_pos (by omega)] at h; cases h
      · rw [wordOf_pos (by omega), wordOf_pos (v := u) (by omega)] at h
        injection h with h2 h3
        have e1 := lett_inj (Nat.mod_lt _ (by decide)) (Nat.mod_lt _ (by decide)) h2
        have e2 := ih (v / 8) (by omega) h3
        have := Nat.div_add_mod v 8
        have := Nat.div_add_mod u 8
        omega
def sepOf (s : Nat) : Nat := if s = 1 then 9 else 10
/-- a word's row: its number, is it bare, which sign behind it -/
abbrev Row := Nat × Nat × Nat
def pieceOf (r : Row) : List Nat := wr (wordOf r.1) r.2.1 ++ [sepOf r.2.2]
def textOf (R : List Row) : List Nat := R.flatMap pieceOf
structure GoodR (R : List Row) (k : Nat) : Prop where
  len : R.length = k
  inc : R.Pairwise fun a b => a.1 < b.1
  le : ∀ r ∈ R, r.1 < 16 * k ∧ r.2.1 < 2 ∧ r.2.2 < 2
theorem wr_le {w : List Nat} {b k : Nat} (h : w.length ≤ k) : (wr w b).length ≤ 2 * k + 2 := by
  unfold wr
  split
  · have := flat_len (fun c => [92, c]) (fun _ => Nat.le_refl _) w
    unfold wrBare; omega
  · have := flat_len escOf escOf_len w
    unfold wrQuo
    rw [List.length_cons, List.length_append, List.length_singleton]
    omega
theorem piece_le {r : Row} (h : r.1 < 512) : (pieceOf r).length ≤ 9 := by
  have := wr_le (b := r.2.1) (wordOf_len (v := r.1) (k := 3) (by simpa using h))
  unfold pieceOf
  rw [List.length_append, List.length_singleton]
  omega
theorem text_le {R : List Row} (h : ∀ r ∈ R, r.1 < 512) : (textOf R).length ≤ 9 * R.length := by
  induction R with
  | nil => simp [textOf]
  | cons r R ih =>
    have h1 := piece_le (h r (.head _))
    have h2 := ih fun q hq => h q (.tail _ hq)
    unfold textOf at h2 ⊢
    rw [List.flatMap_cons, List.length_append, List.length_cons]
    omega
theorem text_snoc (R : List Row) (r : Row) : textOf (R ++ [r]) = textOf R ++ (wr (wordOf r.1) r.2.1 ++ [sepOf r.2.2]) := by
  simp [textOf, pieceOf]
theorem GoodR.nil : GoodR [] 0 := ⟨rfl, .nil, fun _ h => nomatch h⟩
theorem GoodR.snoc {R : List Row} {k v b s : Nat} (G : GoodR R k) (hv : ∀ r ∈ R, r.1 < v) (hk : v < 16 * (k + 1)) (hb : b < 2) (hs : s < 2) : GoodR (R ++ [(v, b, s)]) (k + 1) := by
  refine ⟨by rw [List.length_append, G.len]; rfl, ?_, fun r hr => ?_⟩
  · rw [List.pairwise_append]
    exact ⟨G.inc, List.pairwise_singleton .., fun a ha b hb => by rw [List.mem_singleton.mp hb]; exact hv a ha⟩
  · rcases List.mem_append.mp hr with hr | hr
    · have := G.le r hr; omega
    · rw [List.mem_singleton.mp hr]; exact ⟨hk, hb, hs⟩
end
section
example : True := by w_top off; trivial
def bodyOf {p : Params} {oc : Value} {od : Option Addr} {osl : Array (Option Value)} {name qual : Str} {params : Arguments} {body : List Stmt} {scope : Scope} {dV kV doc pm cdv ct : Value} {an : Option Addr}
  (_ : (heapK p).lookup 147 = some ⟨oc, od, .func (fnX name qual params body scope [] dV kV doc pm an cdv ct), osl⟩) : List Stmt := body
def scopeOf {p : Params} {oc : Value} {od : Option Addr} {osl : Array (Option Value)} {name qual : Str} {params : Arguments} {body : List Stmt} {scope : Scope} {dV kV doc pm cdv ct : Value} {an : Option Addr}
  (_ : (heapK p).lookup 147 = some ⟨oc, od, .func (fnX name qual params body scope [] dV kV doc pm an cdv ct), osl⟩) : Scope := scope
noncomputable def lawBody (p : Params) : List Stmt := bodyOf (p := p) (by
  have hK : (PySem.Challenge.rw_pg0241_01 = PySem.Challenge.rw_pg0241_01 ∧ heapK = heapK) := ⟨rfl, rfl⟩
  revert hK; k_fill; intro hK; clear hK
  show _ = _
  k_is)
noncomputable def lawScope (p : Params) : Scope := scopeOf (p := p) (by
  have hK : (PySem.Challenge.rw_pg0241_01 = PySem.Challenge.rw_pg0241_01 ∧ heapK = heapK) := ⟨rfl, rfl⟩
  revert hK; k_fill; intro hK; clear hK
  show _ = _
  k_is)
noncomputable def stm (p : Params) (k : Nat) : Stmt := ((lawBody p)[k]?).getD (.Pass default)
example (p : Params) : (lawBody p).length = 37 := by rfl
example (p : Params) : (lawBody p).drop 3 = stm p 3 :: (lawBody p).drop 4 := rfl
noncomputable abbrev lawEnv (p : Params) (L c1 c2 c3 c4 c5 c6 c7 c8 c9 c10 : Addr) : Env :=
  envX "law" (lawScope p) L 147 (.ref 146) [("m", c10), ("step", c9), ("left", c8), ("steps", c7), ("taken", c6), ("whole", c5), ("number", c4), ("reader", c3), ("words", c2), ("letters", c1)]
end
section
example : True := by w_top off; trivial
theorem item_lett {i : Nat} (h : i < 8) : Txt.item (Str.ofString "a \\\"\nb\t#") ((i : Nat) : Int) = ⟨#[lett i]⟩ := by
  have : ∀ j : Fin 8, Txt.item (Str.ofString "a \\\"\nb\t#") ((j.val : Nat) : Int) = ⟨#[lett j.val]⟩ := by decide +kernel
  exact this ⟨i, h⟩
theorem item_sep {i : Nat} (h : i < 2) : Txt.item (Str.ofString "\n\t") ((i : Nat) : Int) = ⟨#[sepOf i]⟩ := by
  have : ∀ j : Fin 2, Txt.item (Str.ofString "\n\t") ((j.val : Nat) : Int) = ⟨#[sepOf j.val]⟩ := by decide +kernel
  exact this ⟨i, h⟩
abbrev JL2b (g : Heap) (L : Addr) (c1 : Addr) (c2 : Addr) (rest : List (Addr × Obj)) (o1' : Obj) (Dv : Addr) (Dw : Addr) (o2' : Obj) (D : Addr) (xs : List Value) (I : Addr) (R : List Row) (vv : List Value) (wv : List Value) (ev : Nat) (ew : Nat) (tt : Tok) (o' : Obj) (x : Int) (tx : Tok) (q : Nat) : Nat → Heap → Prop := fun (n : Nat) (h : Heap) => Ex6 fun (acc : List Nat) (rr : Nat) (m' : Str → Option Value) (tr tw tq : Tok) => And10 (n = rr) (acc ++ wordOf rr = wordOf q) (Fr g L h m') (News g L h ((I, o') :: (D, listOf xs.toArray 0) :: (Dw, listOf wv.toArray ew) :: (Dv, listOf vv.toArray ev) :: (c1, o1') :: (c2, o2') :: rest)) (m' "rest" = some (.int rr tr)) (m' "word" = some (.str (strOf acc) tw)) (m' "value" = some (.int q tq)) (m' "x" = some (.int x tx)) (m' "text" = some (.str (strOf (textOf R)) tt)) (m' "values" = some (.ref Dv))
abbrev JL2a (g : Heap) (L : Addr) (c1 : Addr) (c2 : Addr) (rest : List (Addr × Obj)) (o1' : Obj) (Dv : Addr) (Dw : Addr) (o2' : Obj) (D : Addr) (xs : List Value) (I : Addr) : Nat → Heap → Prop := fun (i : Nat) (h : Heap) => Ex10 fun (R : List Row) (v : Int) (o : Obj) (m' : Str → Option Value) (vv wv : List Value) (ev ew : Nat) (tv tt : Tok) => And12 (GoodR R i) (-1 ≤ v) (v < 16 * i) ((∀ r ∈ R, (r.1 : Int) ≤ v)) (Fr g L h m') (News g L h ((I, o) :: (D, listOf xs.toArray 0) :: (Dw, listOf wv.toArray ew) :: (Dv, listOf vv.toArray ev) :: (c1, o1') :: (c2, o2') :: rest)) (h.IsListIter I D i) (m' "value" = some (.int v tv)) (m' "text" = some (.str (strOf (textOf R)) tt)) (m' "values" = some (.ref Dv)) (IntsAre vv (R.map fun r => (r.1 : Int))) (StrsAre wv (R.map fun r => strOf (wordOf r.1)))
theorem seg1 (hK : PySem.Challenge.rw_pg0241_01 = PySem.Challenge.rw_pg0241_01 ∧ heapK = heapK) {w : World} {d : Nat} {fs : Option (List Env)} {gd : Option (List Code)} {u : Nat} {Q : Flow → Shared → Prop} {s : Shared} {g h : Heap} {t : Nat} {L S c1 c2 c3 c4 c5 c6 c7 c8 c9 c10 : Addr} {o1 o2 : Obj} {m : Str → Option Value} {vs0 : List Value} {ns : List Int} {rest : List (Addr × Obj)}
  (B : Bs w g) (r : Rm ⟨none, d, fs, gd, u⟩ 80) (hS : g.IsList S vs0.toArray) (hits : IntsAre vs0 ns) (hn63 : ns.length ≤ 63) (hm1 : m "script" = some (.ref S)) (d1 : o1.data = .cell none) (d2 : o2.data = .cell none)
  (F : Fr g L h m) (N : News g L h ((c1, o1) :: (c2, o2) :: rest)) (nd : (c1 :: c2 :: ads rest).Nodup)
  (hQ : ∀ (h : Heap) (t : Nat) (m : Str → Option Value) (Dv Dw : Addr) (o1 o2 : Obj) (R : List Row) (vv wv : List Value) (ev ew : Nat) (tt tl : Tok), (∃ n, GoodR R n ∧ 6 ≤ n ∧ n ≤ 11) → Fr g L h m →
    News g L h ((Dw, listOf wv.toArray ew) :: (Dv, listOf vv.toArray ev) :: (c1, o1) :: (c2, o2) :: rest) → (Dw :: Dv :: c1 :: c2 :: ads rest).Nodup → o1.data = .cell (some (.str (Str.ofString "a \\\"\nb\t#") tl)) → o2.data = .cell (some (.ref Dw)) →
    m "text" = some (.str (strOf (textOf R)) tt) → m "values" = some (.ref Dv) → IntsAre vv (R.map fun r => (r.1 : Int)) → StrsAre wv (R.map fun r => strOf (wordOf r.1)) →
    wpAny (model P0 w) ⟨none, d, fs, gd, u⟩ (execs ((lawBody w.params).drop 6) (lawEnv w.params L c1 c2 c3 c4 c5 c6 c7 c8 c9 c10)) Q (fun _ _ => False) (At s h t)) :
  wpAny (model P0 w) ⟨none, d, fs, gd, u⟩ (execs ((lawBody w.params).drop 0) (lawEnv w.params L c1 c2 c3 c4 c5 c6 c7 c8 c9 c10)) Q (fun _ _ => False) (At s h t) := by
  revert hK; k_fill; intro hK; clear hK
  obtain ⟨p, loose, mean, mg, mb, T⟩ := B.T
  have X := B.X
  dsimp only [At]
  (rw [show (lawBody w.params).drop 0 = stm w.params 0 :: (lawBody w.params).drop 1 from rfl]; conv in (stm w.params 0) => whnf)
  walk_at "stms"
  with_reducible rename (Obj.data _ = _) => d1'
  with_reducible rename Obj => o1'
  (rw [show (lawBody w.params).drop 1 = stm w.params 1 :: (lawBody w.params).drop 2 from rfl]; conv in (stm w.params 1) => whnf)
  walk_at "stms"
  with_reducible rename Addr => Dv
  (rw [show (lawBody w.params).drop 2 = stm w.params 2 :: (lawBody w.params).drop 3 from rfl]; conv in (stm w.params 2) => whnf)
  walk_at "stms"
  with_reducible rename (Obj.data _ = _) => d2'
  with_reducible rename Obj => o2'
  with_reducible rename Addr => Dw
  (rw [show (lawBody w.params).drop 3 = stm w.params 3 :: (lawBody w.params).drop 4 from rfl]; conv in (stm w.params 3) => whnf)
  walk_at "stms"
  (rw [show (lawBody w.params).drop 4 = stm w.params 4 :: (lawBody w.params).drop 5 from rfl]; conv in (stm w.params 4) => whnf)
  walk_at "stms"
  (rw [show (lawBody w.params).drop 5 = stm w.params 5 :: (lawBody w.params).drop 6 from rfl]; conv in (stm w.params 5) => whnf)
  walk_at "stms"
  refine wpAny_For ?_
  walk_at "stms"
  with_reducible rename Fr _ _ _ _ => Fx
  with_reducible rename News _ _ _ _ => Nx
  with_reducible rename List.Nodup _ => ndx
  with_reducible rename IntsAre _ (_ ++ _) => hix
  with_reducible rename List Value => xs
  with_reducible rename Addr => D
  refine iterList Fx Nx (News.isList Nx (.head _)) (fun I h2 o0 F2 N2 l2 hit0 hl0 hDI => ?_)
  have nd2 := nd_cons ndx rfl l2
  clear Fx Nx
  have hsz : xs.toArray.size = ([0, 18, 33, 20, 60, 26] ++ List.take 5 ns).length := size_ints hix
  have hn : xs.toArray.size = 6 + min 5 ns.length := by rw [hsz, List.length_append, List.length_take]; rfl
  refine forW (Walks.list rfl I D hDI xs.toArray)
    (JL2a g L c1 c2 rest o1' Dv Dw o2' D xs I)
    ?hJ ?h0 ?turn ?fin ?ht
  case ht => intro _; rfl
  case hJ =>
    rintro i h ⟨R, v, o, m', vv, wv, ev, ew, tv, tt, G, _, _, _, F, N, hit, _⟩
    exact ⟨hit, News.isList N (.tail _ (.head _))⟩
  case h0 =>
    refine' ⟨[], -1, o0, _, [], [], 0, 0, _, _, ?a1, ?a2, ?a3, ?a4, F2, ?q4, ?a6, ?q1, ?q2, ?q3, ?a7, ?a8⟩
    case a1 => exact GoodR.nil
    case a2 => decide
    case a3 => decide
    case a4 => intro r hr; cases hr
    case a6 => exact hit0
    case a7 => exact IntsAre.nil
    case a8 => exact StrsAre.nil
    case q4 => exact news_sub N2 (by walk_at "sub")
    case q1 => rfl
    case q2 => rfl
    case q3 => rfl
  case turn =>
    have nd3 : (I :: D :: Dw :: Dv :: c1 :: c2 :: ads rest).Nodup := List.Nodup.sublist (by walk_at "sub") nd2
    clear F2 N2 nd2
    rintro i v0 h h' t hi hP ⟨R, v, o, m', vv, wv, ev, ew, tv, tt, G, hv0, hv1, hle, F, N, hit, e1, e2, e3, hvv, hwv⟩ hk ⟨⟨o', ho', hoc, hod⟩, _⟩
    obtain ⟨F, N⟩ := iter_turn F N nd3 hk ho'
    obtain ⟨x, tx, hx, rfl⟩ := ints_at hix (j := i) (by simpa using hP)
    dsimp only [At]
    walk_at "stms"
    with_reducible rename Fr _ _ _ _ => Fx
    with_reducible rename News _ _ _ _ => Nx
    have hx0 : 0 ≤ x.fmod 16 := Int.fmod_nonneg_of_pos _ (by decide)
    have hx1 : x.fmod 16 < 16 := Int.fmod_lt_of_pos _ (by decide)
    obtain ⟨q, hq⟩ : ∃ q : Nat, v + 1 + x.fmod 16 = (q : Int) := ⟨(v + 1 + x.fmod 16).toNat, by omega⟩
    rw [hq] at Fx
    have hq1 : q < 16 * (i + 1) := by omega
    have hi11 : i < 11 := by omega
    have hwl : (wordOf q).length ≤ 3 := wordOf_len (by omega)
    have hqR : ∀ r ∈ R, r.1 < q := fun r hr => by have := hle r hr; omega
    clear hx0 hx1 hq
    refine wpAny_While ?_
    refine whileW (JL2b g L c1 c2 rest o1' Dv Dw o2' D xs I R vv wv ev ew tt o' x tx q) ?turn2 q ?h02
    case h02 =>
      refine' ⟨[], q, _, _, _, _, ?a1, ?a2, Fx, Nx, ?a3, ?a4, ?a5, ?a6, ?a7, ?a8⟩
      case a1 => rfl
      case a2 => rfl
      case a3 => rfl
      case a4 => rfl
      case a5 => rfl
      case a6 => rfl
      case a7 => exact e2
      case a8 => exact e3
    case turn2 =>
      clear Fx Nx
      rintro n h2 t2 ⟨acc, rr, m2, tr, tw, tq, rfl, hacc, F, N, f1, f2, f3, f4, f5, f6⟩
      dsimp only [At]
      have hal : acc.length + (wordOf n).length ≤ 3 := by rw [← List.length_append, hacc]; exact hwl
      have hsl : (strOf acc).length = acc.length := List.size_toArray ..
      by_cases hz : 0 < n
      · have hn8 : ((n : Int)).fmod 8 = ((n % 8 : Nat) : Int) := by rw [Int.fmod_eq_emod_of_nonneg _ (by decide)]; rfl
        have hd8 : ((n : Int)).fdiv 8 = ((n / 8 : Nat) : Int) := by rw [Int.fdiv_eq_ediv_of_nonneg _ (by decide)]; rfl
        walk_at "stms"
        with_reducible rename Fr _ _ _ _ => Fx
        with_reducible rename News _ _ _ _ => Nx
        rw [hn8, hd8, item_lett (Nat.mod_lt _ (by decide)), strOf_snoc] at Fx
        refine' ⟨_, _, n / 8, rfl, by omega, acc ++ [lett (n % 8)], n / 8, _, _, _, _, rfl, ?a2, Fx, Nx, ?a3, ?a4, ?a5, ?a6, ?a7, ?a8⟩
        case a2 => rw [List.append_assoc, ← hacc, wordOf_pos hz]; rfl
        case a3 => rfl
        case a4 => rfl
        case a5 => exact f3
        case a6 => exact f4
        case a7 => exact f5
        case a8 => exact f6
      · have hn0 : n = 0 := by omega
        subst hn0
        rw [wordOf_zero, List.append_nil] at hacc
        subst hacc
        have hvl : vv.toArray.size ≤ 11 := by rw [size_ints hvv, List.length_map, G.len]; omega
        have hwl2 : wv.toArray.size ≤ 11 := by rw [List.size_toArray, StrsAre.len hwv, List.length_map, G.len]; omega
        walk_at "stms"
        with_reducible rename Fr _ _ _ _ => Fx
        with_reducible rename News _ _ _ _ => Nx
        obtain ⟨b, hb, hb2⟩ : ∃ b : Nat, (x.fdiv 16).fmod 2 = (b : Int) ∧ b < 2 := ⟨((x.fdiv 16).fmod 2).toNat, by
          have h0 : 0 ≤ (x.fdiv 16).fmod 2 := Int.fmod_nonneg_of_pos _ (by decide)
          have h1 : (x.fdiv 16).fmod 2 < 2 := Int.fmod_lt_of_pos _ (by decide)
          omega⟩
        obtain ⟨sb, hsb, hsb2⟩ : ∃ b : Nat, (x.fdiv 32).fmod 2 = (b : Int) ∧ b < 2 := ⟨((x.fdiv 32).fmod 2).toNat, by
          have h0 : 0 ≤ (x.fdiv 32).fmod 2 := Int.fmod_nonneg_of_pos _ (by decide)
          have h1 : (x.fdiv 32).fmod 2 < 2 := Int.fmod_lt_of_pos _ (by decide)
          omega⟩
        rw [hb]
        refine wpAny_call (law_written_ok ⟨rfl, rfl⟩ B Fx.keep (r.less (by omega)) (wordOf_alpha q) (by omega) hb2 (fun h5 t5 tv5 k5 => ?_))
        have F5 := Fr.subs Fx k5
        have N5 := News.subs Nx k5
        clear Fx Nx
        dsimp only
        have htl : (strOf (textOf R)).length ≤ 99 := by
          have h1 := text_le (R := R) fun r hr => by have := (G.le r hr).1; omega
          rw [G.len] at h1
          show (textOf R).toArray.size ≤ 99
          rw [List.size_toArray]; omega
        have hwr : (strOf (wr (wordOf q) b)).length ≤ 8 := by
          have := wr_le (b := b) hwl
          show (wr (wordOf q) b).toArray.size ≤ 8
          rw [List.size_toArray]; omega
        walk_at "stms"
        with_reducible rename Fr _ _ _ _ => Fx
        with_reducible rename News _ _ _ _ => Nx
        rw [hsb, item_sep hsb2, str_app, strOf_snoc, List.append_assoc, ← text_snoc R (q, b, sb)] at Fx
        rw [show vv.toArray.push (Value.int q tq) = (vv ++ [Value.int q tq]).toArray by simp, show wv.toArray.push (Value.str (strOf (wordOf q)) tw) = (wv ++ [Value.str (strOf (wordOf q)) tw]).toArray by simp] at Nx
        refine' ⟨_, _, rfl, R ++ [(q, b, sb)], (q : Int), o', _, vv ++ [_], wv ++ [_], ev + 1, ew + 1, _, _, ?b0, ?b1, ?b2, ?b3, Fx, Nx, ?b4, ?b5, ?b6, ?b7, ?b8, ?b9⟩
        case b0 => exact GoodR.snoc G hqR hq1 hb2 hsb2
        case b1 => omega
        case b2 => omega
        case b3 =>
          intro r hr
          rcases List.mem_append.mp hr with hr | hr
          · have := hqR r hr; omega
          · rw [List.mem_singleton.mp hr]; exact Int.le_refl _
        case b4 => exact ⟨o', (Nx _ (.head _)).1, hoc, hod⟩
        case b5 => exact f3
        case b6 => rfl
        case b7 => exact f6
        case b8 => rw [List.map_append]; exact ints_app hvv (IntsAre.cons _ _ IntsAre.nil)
        case b9 => rw [List.map_append]; exact StrsAre.snoc hwv
  case fin =>
    have nd3 : (I :: Dw :: Dv :: c1 :: c2 :: ads rest).Nodup := List.Nodup.sublist (by walk_at "sub") nd2
    have nd4 : (I :: D :: Dw :: Dv :: c1 :: c2 :: ads rest).Nodup := List.Nodup.sublist (by walk_at "sub") nd2
    rintro h h' t ⟨R, v, o, m', vv, wv, ev, ew, tv, tt, G, hv0, hv1, hle, F, N, hit, e1, e2, e3, hvv, hwv⟩ hk
    obtain ⟨F, N⟩ := iter_end F N nd4 hk
    clear F2 N2
    dsimp only [At]
    walk_at "stms"
    with_reducible rename Fr _ _ _ _ => Fx
    with_reducible rename News _ _ _ _ => Nx
    refine hQ _ _ _ Dv Dw _ _ R vv wv ev ew _ _ ?b0 Fx (news_sub Nx ?b1) (ndt nd3) d1' d2' e2 e3 hvv hwv
    case b0 => rw [hn] at G; exact ⟨_, G, by omega, by omega⟩
    case b1 => walk_at "sub"
end
section
example : True := by w_top off; trivial
theorem chs_of : ∀ {cs : List Nat} {ys : List Value}, StrsAre ys (cs.map fun c => (⟨#[c]⟩ : Str)) → Chs ys.reverse cs
  | [], _, h => by cases h; exact .nil
  | c :: cs, _, h => by
    cases h with
    | cons y t r =>
      rw [List.reverse_cons]
      exact .snoc c t (chs_of r)
theorem seg2 (hK : PySem.Challenge.rw_pg0241_01 = PySem.Challenge.rw_pg0241_01 ∧ heapK = heapK) {w : World} {d : Nat} {fs : Option (List Env)} {gd : Option (List Code)} {u : Nat} {Q : Flow → Shared → Prop} {s : Shared} {g h : Heap} {t : Nat} {L c1 c2 c3 c4 c5 c6 c7 c8 c9 c10 Dv Dw : Addr} {o1 o2 o3 ob1 ob2 : Obj} {m : Str → Option Value} {rest : List (Addr × Obj)} {tx : List Nat} {tt : Tok}
  (B : Bs w g) (r : Rm ⟨none, d, fs, gd, u⟩ 80) (d3 : o3.data = .cell none)
  (F : Fr g L h m) (N : News g L h ((Dw, ob1) :: (Dv, ob2) :: (c1, o1) :: (c2, o2) :: (c3, o3) :: (rest ++ [(118, tabObj #[])]))) (nd : (Dw :: Dv :: c1 :: c2 :: c3 :: ads (rest ++ [(118, tabObj #[])])).Nodup)
  (hm1 : m "text" = some (.str (strOf tx) tt)) (hm2 : m "values" = some (.ref Dv)) (hal : ∀ c ∈ tx, c ∈ alpha) (hl : tx.length ≤ 100)
  (hQ : ∀ (h : Heap) (t : Nat) (m : Str → Option Value) (x dx l f1 dd f2 cell Ds : Addr) (a1 a2 a3 a4 a5 tn : Tok) (fo od co ro : Obj) (k1 k2 : Addr) (lo1 lo2 o3 : Obj) (sg : List Value) (e : Nat) (tt : Tok), Stm Ds f1 dd f2 cell fo od co k2 ro → LamTab k1 k2 lo1 lo2 → Chs sg (tx ++ [122]) → Fr g L h m →
    News g L h ((x, instObj 112 dx) :: (dx, lexD w.params a1 a2 a3 a4 a5 1 tn f1 l) :: (l, listOf #[] 0) :: (f1, fo) :: (dd, od) :: (f2, ro) :: (cell, co) :: (Ds, listOf sg.toArray e) :: (Dw, ob1) :: (Dv, ob2) :: (c1, o1) :: (c2, o2) :: (c3, o3) :: (rest ++ lamG k1 k2 lo1 lo2)) →
    (x :: dx :: l :: f1 :: dd :: f2 :: cell :: Ds :: Dw :: Dv :: c1 :: c2 :: c3 :: ads (rest ++ lamG k1 k2 lo1 lo2)).Nodup → o3.data = .cell (some (.ref x)) →
    m "text" = some (.str (strOf (tx ++ [122])) tt) → m "values" = some (.ref Dv) → m "signs" = some (.ref Ds) →
    wpAny (model P0 w) ⟨none, d, fs, gd, u⟩ (execs ((lawBody w.params).drop 10) (lawEnv w.params L c1 c2 c3 c4 c5 c6 c7 c8 c9 c10)) Q (fun _ _ => False) (At s h t)) :
  wpAny (model P0 w) ⟨none, d, fs, gd, u⟩ (execs ((lawBody w.params).drop 6) (lawEnv w.params L c1 c2 c3 c4 c5 c6 c7 c8 c9 c10)) Q (fun _ _ => False) (At s h t) := by
  revert hK; k_fill; intro hK; clear hK
  obtain ⟨p, loose, mean, mg, mb, T⟩ := B.T
  have X := B.X
  have hlt : (strOf tx).length ≤ 100 := by show tx.toArray.size ≤ 100; rw [List.size_toArray]; exact hl
  dsimp only [At]
  (rw [show (lawBody w.params).drop 6 = stm w.params 6 :: (lawBody w.params).drop 7 from rfl]; conv in (stm w.params 6) => whnf)
  walk_at "stms"
  with_reducible rename Fr _ _ _ _ => Fx
  with_reducible rename News _ _ _ _ => Nx
  rw [show Str.ofString "z" = strOf [122] from by decide +kernel, str_app] at Fx
  have hal2 : ∀ c ∈ tx ++ [122], c ∈ alpha := fun c hc => (List.mem_append.mp hc).elim (hal c) fun h => by rw [List.mem_singleton.mp h]; decide
  have hl2 : (tx ++ [122]).length ≤ 101 := by rw [List.length_append]; exact Nat.succ_le_succ hl
  generalize tx ++ [122] = cs at Fx hal2 hl2 hQ
  (rw [show (lawBody w.params).drop 7 = stm w.params 7 :: (lawBody w.params).drop 8 from rfl]; conv in (stm w.params 7) => whnf)
  walk_at "stms"
  refine compU (cl := []) (by with_unfolding_all rfl) (by rfl) (by decide) rfl (by decide) (by decide) (by rfl) (by rfl) ?_
  walk_at "stms"
  refine iterStr Fx Nx (alpha_asc hal2) (fun I h2 o0 F2 N2 l2 hit0 => ?_)
  have nd2 := nd_cons nd rfl l2
  refine compG_str (L := L) rfl rfl B F2 N2 nd2 hit0 (fun i ys G => G = (Dw, ob1) :: (Dv, ob2) :: (c1, o1) :: (c2, o2) :: (c3, o3) :: (rest ++ [(118, tabObj #[])]) ∧ StrsAre ys ((cs.take i).map fun c => (⟨#[c]⟩ : Str))) ⟨rfl, StrsAre.nil⟩ (fun i ys G hj => ?_) (fun g₂ C D i v ys G o' e h t m' gg₂ B₂ hi hP hj F3 N3 nd3 => ?_) (fun D ys G e h t hj F3 N3 nd3 h' t' F4 N4 => ?_)
  · rw [StrsAre.len hj.2, List.length_map, List.length_take]; omega
  · obtain ⟨c, u, hc, rfl⟩ := hP
    obtain ⟨rfl, hs⟩ := hj
    refine wpAny_tests_nil ?_
    rw [if_pos rfl]
    clear Fx Nx F2 N2
    have hci : cs[i]? = some c := by simpa [strOf] using hc
    walk_at "stms"
    refine ⟨_, _, _, _, rfl, F3, N3, nd3, rfl, ?_⟩
    rw [take_snoc' hci, List.map_append]
    exact StrsAre.snoc hs
  · obtain ⟨rfl, hs⟩ := hj
    rw [List.take_of_length_le (by simp [strOf])] at hs
    have hch := chs_of hs
    have hsl : ys.length ≤ 101 := by rw [StrsAre.len hs, List.length_map]; exact hl2
    clear Fx Nx F2 N2 F3 N3
    dsimp only [At]
    (rw [show (lawBody w.params).drop 8 = stm w.params 8 :: (lawBody w.params).drop 9 from rfl]; conv in (stm w.params 8) => whnf)
    walk_at "stms"
    refine reverse_K F4 N4 (upd_z nd3 rfl) (fun h5 F5 N5 => ?_) (by rw [List.size_toArray]; exact Nat.le_trans (show ys.length ≤ 1000 by omega) (by decide))
    rw [show ys.toArray.reverse = ys.reverse.toArray by simp] at N5
    clear F4 N4
    generalize ys.reverse = sg at N5 hch
    (rw [show (lawBody w.params).drop 9 = stm w.params 9 :: (lawBody w.params).drop 10 from rfl]; conv in (stm w.params 9) => whnf)
    walk_at "stms"
    with_reducible rename Fr _ _ _ _ => Fx
    with_reducible rename News _ _ _ _ => Nx
    refine wpAny_call (law_stream_fresh ⟨rfl, rfl⟩ (G := []) B Fx.keep (r.less (by omega)) (own_of_news Nx fun p hp => ?_) (fun h6 t6 f1 dd f2 cell fo od co k1 k2 lo1 lo2 ro M TL D6 => ?_))
    · rw [List.mem_singleton.mp hp]; simp
    obtain ⟨F6, N6, nd6⟩ := D6.after (pre := (D, listOf sg.toArray e) :: (Dw, ob1) :: (Dv, ob2) :: (c1, o1) :: (c2, o2) :: (c3, o3) :: rest) Fx Nx nd3
    clear Fx Nx D6
    replace N6 : News g L h6 ((f1, fo) :: (dd, od) :: (f2, ro) :: (cell, co) :: (D, listOf sg.toArray e) :: (Dw, ob1) :: (Dv, ob2) :: (c1, o1) :: (c2, o2) :: (c3, o3) :: (rest ++ lamG k1 k2 lo1 lo2)) := N6
    replace nd6 : (f1 :: dd :: f2 :: cell :: D :: Dw :: Dv :: c1 :: c2 :: c3 :: ads (rest ++ lamG k1 k2 lo1 lo2)).Nodup := nd6
    dsimp only
    walk_at "stms"
    refine lex_new ⟨rfl, rfl⟩ B (r.less (by omega)) F6 N6 nd6 (fun h7 t7 x dx l a1 a2 a3 a4 a5 tn F7 N7 nd7 => ?_)
    clear F6 N6 nd6 nd3
    dsimp only [At]
    walk_at "stms"
    with_reducible rename Fr _ _ _ _ => Fx
    with_reducible rename News _ _ _ _ => Nx
    with_reducible rename (Obj.data _ = Data.cell (some (Value.ref x))) => d3'
    exact hQ _ _ _ x dx l f1 dd f2 cell D a1 a2 a3 a4 a5 tn fo od co ro k1 k2 lo1 lo2 _ sg e _ M TL hch Fx Nx nd7 d3' rfl hm2 rfl
end
section
example : True := by w_top off; trivial
theorem sep_ws (s : Nat) : isWs (sepOf s) = true := by unfold sepOf; split <;> decide
theorem sep_alpha (s : Nat) : sepOf s ∈ alpha := by unfold sepOf; split <;> decide
theorem bt_bare (acc w rest : List Nat) (s : Nat) : BT acc (wrBare w ++ (sepOf s :: rest)) (acc ++ w) rest false := by
  induction w generalizing acc with
  | nil => rw [List.append_nil]; exact BT.done (sep_ws s)
  | cons c w ih =>
    have := ih (acc ++ [c])
    rw [List.append_assoc] at this
    exact BT.esc this
theorem qt_word (acc w rest : List Nat) : QT acc (w.flatMap escOf ++ (34 :: rest)) (acc ++ w) rest := by
  induction w generalizing acc with
  | nil => rw [List.append_nil]; exact QT.done
  | cons c w ih =>
    have h := ih (acc ++ [c])
    rw [List.append_assoc] at h
    rw [List.flatMap_cons, List.append_assoc]
    by_cases hc : c = 34 ∨ c = 92
    · rw [show escOf c = [92, c] from if_pos hc]; exact QT.esc h
    · rw [show escOf c = [c] from if_neg hc]; exact QT.plain (fun e => hc (.inl e)) (fun e => hc (.inr e)) h
def Pre (pre : List Nat) : Prop := pre = [] ∨ ∃ s, pre = [sepOf s]
theorem t0_piece (r : Row) (rest : List Nat) : ∃ post, Pre post ∧ T0 (pieceOf r ++ rest) (wordOf r.1) (post ++ rest) := by
  unfold pieceOf wr
  split
  · rename_i h
    refine ⟨[], .inl rfl, ?_⟩
    generalize wordOf r.1 = w at h
    cases w with
    | nil => exact absurd rfl h.2
    | cons c w =>
      have := bt_bare [c] w rest r.2.2
      rw [List.append_assoc]
      exact T0.esc this
  · refine ⟨[sepOf r.2.2], .inr ⟨_, rfl⟩, ?_⟩
    have := qt_word [] (wordOf r.1) (sepOf r.2.2 :: rest)
    rw [List.nil_append] at this
    have e : wrQuo (wordOf r.1) ++ [sepOf r.2.2] ++ rest = 34 :: ((wordOf r.1).flatMap escOf ++ (34 :: (sepOf r.2.2 :: rest))) := by
      unfold wrQuo; simp
    rw [e]
    exact T0.quote this
theorem t0_pre {pre a tok rest : List Nat} (h : Pre pre) (x : T0 a tok rest) : T0 (pre ++ a) tok rest := by
  rcases h with rfl | ⟨s, rfl⟩
  · exact x
  · exact T0.skip (sep_ws s) x
/-- reading one word more -/
theorem t0_row {R : List Row} {i : Nat} {r : Row} (hr : R[i]? = some r) {pre : List Nat} (h : Pre pre) (z : List Nat) :
    ∃ post, Pre post ∧ T0 (pre ++ textOf (R.drop i) ++ z) (wordOf r.1) (post ++ textOf (R.drop (i + 1)) ++ z) := by
  obtain ⟨hi, he⟩ := List.getElem?_eq_some_iff.mp hr
  have e : R.drop i = r :: R.drop (i + 1) := by rw [← he]; exact List.drop_eq_getElem_cons hi
  obtain ⟨post, hp, ht⟩ := t0_piece r (textOf (R.drop (i + 1)) ++ z)
  refine ⟨post, hp, ?_⟩
  rw [e]
  have e2 : textOf (r :: R.drop (i + 1)) = pieceOf r ++ textOf (R.drop (i + 1)) := by unfold textOf; rw [List.flatMap_cons]
  rw [e2, List.append_assoc, List.append_assoc, List.append_assoc]
  exact t0_pre h ht
theorem text_alpha (R : List Row) : ∀ c ∈ textOf R, c ∈ alpha := by
  intro c hc
  unfold textOf at hc
  obtain ⟨r, hr, hc⟩ := List.mem_flatMap.mp hc
  unfold pieceOf at hc
  rcases List.mem_append.mp hc with hc | hc
  · unfold wr at hc
    split at hc
    · unfold wrBare at hc
      obtain ⟨y, hy, hc⟩ := List.mem_flatMap.mp hc
      rcases List.mem_cons.mp hc with rfl | hc
      · decide
      · rw [List.mem_singleton.mp hc]; exact wordOf_alpha _ y hy
    · unfold wrQuo at hc
      rcases List.mem_cons.mp hc with rfl | hc
      · decide
      · rcases List.mem_append.mp hc with hc | hc
        · obtain ⟨y, hy, hc⟩ := List.mem_flatMap.mp hc
          unfold escOf at hc
          split at hc
          · rcases List.mem_cons.mp hc with rfl | hc
            · decide
            · rw [List.mem_singleton.mp hc]; exact wordOf_alpha _ y hy
          · rw [List.mem_singleton.mp hc]; exact wordOf_alpha _ y hy
        · rw [List.mem_singleton.mp hc]; decide
  · rw [List.mem_singleton.mp hc]; exact sep_alpha _
theorem pre_alpha {pre : List Nat} (h : Pre pre) : ∀ c ∈ pre, c ∈ alpha := by
  intro c hc
  rcases h with rfl | ⟨s, rfl⟩
  · cases hc
  · rw [List.mem_singleton.mp hc]; exact sep_alpha s
theorem pre_len {pre : List Nat} (h : Pre pre) : pre.length ≤ 1 := by rcases h with rfl | ⟨s, rfl⟩ <;> simp
theorem t0_end {pre : List Nat} (h : Pre pre) : T0 (pre ++ [122]) [122] [] := t0_pre h (T0.bare (b := true) (by decide) (by decide) (by decide) BT.stop)
theorem tx_alpha (R : List Row) : ∀ c ∈ textOf R ++ [122], c ∈ alpha := fun c hc => (List.mem_append.mp hc).elim (text_alpha R c) fun h => by rw [List.mem_singleton.mp h]; decide

/-! two lists of texts compared -/
theorem kt_canLayAll0 : ∀ ns : List Str, (∀ z ∈ ns, PyData.strOk z = true) → PyData.canLayAll0 (ns.map PyData.str) = true
  | [], _ => rfl
  | z :: r, h => by simp [PyData.canLayAll0, PyData.canLay0, h z (.head _), kt_canLayAll0 r fun y hy => h y (.tail _ hy)]
theorem kt_depthAll : ∀ ns : List Str, PyData.depthAll (ns.map PyData.str) = 0
  | [] => rfl
  | _ :: r => by simp [PyData.depthAll, PyData.depth, kt_depthAll r]
theorem kt_shaped (ns : List Str) (h : ∀ z ∈ ns, PyData.strOk z = true) : SeqAt.shaped (.list (ns.map PyData.str)) = true := by
  simp [SeqAt.shaped, PyData.canLay0, PyData.depth, kt_canLayAll0 ns h, kt_depthAll]
theorem kt_sameAll : ∀ ns ms : List Str, PySem.Spec.sameAll (ns.map PyData.str) (ms.map PyData.str) = decide (ns = ms)
  | [], [] => by simp [PySem.Spec.sameAll]
  | [], _ :: _ => by simp [PySem.Spec.sameAll]
  | _ :: _, [] => by simp [PySem.Spec.sameAll]
  | a :: r, b :: t => by
    simp only [List.map_cons, PySem.Spec.sameAll, PySem.Spec.same, kt_sameAll r t]
    by_cases h : a = b <;> by_cases h' : r = t <;> simp [h, h']
theorem kt_same (ns ms : List Str) : PySem.Spec.same (.list (ns.map PyData.str)) (.list (ms.map PyData.str)) = decide (ns = ms) := by
  simp only [PySem.Spec.same]; exact kt_sameAll ns ms
theorem kt_carried : ∀ {vs : List Value} {ns : List Str}, StrsAre vs ns → CarriedAll vs (ns.map PyData.str)
  | _, _, .nil => .nil
  | _, _, .cons _ t r => .cons (.str _ t) (kt_carried r)
theorem kt_ne {prog : Program} {w : World} {A : Around} {E : Value → Shared → Prop} {s : Shared} {a b : Addr} {xs ys : List Value} {ns ms : List Str} {Q : Value → Shared → Prop} (ha : s.heap.IsList a xs.toArray) (hb : s.heap.IsList b ys.toArray) (hi : StrsAre xs ns) (hj : StrsAre ys ms) (hz : ∀ z ∈ ns, PyData.strOk z = true) (hz2 : ∀ z ∈ ms, PyData.strOk z = true) (hu : A.units + 64 < cLine) (h : Q (.bool (!decide (ns = ms))) s) :
    wpAny (model prog w) A (compareOp .NotEq (.ref a) (.ref b)) Q E s :=
  ne_dataH_same (reads_newData ha (kt_carried hi)) (reads_newData hb (kt_carried hj)) (kt_shaped _ hz) (kt_shaped _ hz2) hu (SeqAt.noMix_of_shape (.list .str) rfl _ _ (list_map_has fun _ => rfl) (list_map_has fun _ => rfl)) (by rw [kt_same]; exact h)
theorem Rm.u64 {A : Around} {k : Nat} (r : Rm A k) : A.units + 64 < cLine := by have := r.un; show A.units + 64 < 9900; omega
theorem word_ok (v : Nat) : PyData.strOk (strOf (wordOf v)) = true := by
  unfold PyData.strOk
  have ha : ∀ c ∈ alpha, c < 0x110000 := by decide
  simp only [strOf, List.all_toArray, List.all_eq_true, decide_eq_true_eq]
  exact fun c hc => ha c (wordOf_alpha v c hc)
theorem qt_suf {acc cs tok rest : List Nat} (h : QT acc cs tok rest) : rest <:+ cs := by
  induction h with
  | done => exact List.suffix_cons _ _
  | esc _ ih => exact (ih.trans (List.suffix_cons _ _)).trans (List.suffix_cons _ _)
  | plain _ _ _ ih => exact ih.trans (List.suffix_cons _ _)
theorem bt_suf {acc cs tok rest : List Nat} {b : Bool} (h : BT acc cs tok rest b) : rest <:+ cs := by
  induction h with
  | done _ => exact List.suffix_cons _ _
  | stop => exact List.suffix_refl _
  | esc _ ih => exact (ih.trans (List.suffix_cons _ _)).trans (List.suffix_cons _ _)
  | plain _ _ _ ih => exact ih.trans (List.suffix_cons _ _)
theorem t0_suf {cs tok rest : List Nat} (h : T0 cs tok rest) : rest <:+ cs := by
  induction h with
  | skip _ _ ih => exact ih.trans (List.suffix_cons _ _)
  | quote h => exact (qt_suf h).trans (List.suffix_cons _ _)
  | esc h => exact ((bt_suf h).trans (List.suffix_cons _ _)).trans (List.suffix_cons _ _)
  | bare _ _ _ h => exact (bt_suf h).trans (List.suffix_cons _ _)
  | stop => exact List.suffix_refl _
theorem lam_code {g h : Heap} {L k1 k2 : Addr} {lo1 lo2 : Obj} {news : List (Addr × Obj)} (TL : LamTab k1 k2 lo1 lo2) (N : News g L h news) (hm : ∀ p ∈ lamG k1 k2 lo1 lo2, p ∈ news) : h.CodeRec (.ref k2) "_law_stream.<locals>.<lambda>" := by
  obtain ⟨vs, t, e1, e2⟩ := TL.d2
  exact ⟨k2, lo2, vs, t, rfl, (N (k2, lo2) (hm (k2, lo2) (by simp [lamG]))).1, e1, e2⟩
end
section
example : True := by w_top off; trivial
abbrev JL4a (w : World) (c1 : Addr) (c2 : Addr) (c3 : Addr) (Dv : Addr) (Dw : Addr) (o1 : Obj) (o2 : Obj) (o3 : Obj) (ob2 : Obj) (rest : List (Addr × Obj)) (R : List Row) (x : Addr) (dx : Addr) (l : Addr) (f1 : Addr) (dd : Addr) (f2 : Addr) (cell : Addr) (Ds : Addr) (a1 : Tok) (a2 : Tok) (a3 : Tok) (a4 : Tok) (a5 : Tok) (fo : Obj) (od : Obj) (co : Obj) (ro : Obj) (k1 : Addr) (k2 : Addr) (lo1 : Obj) (lo2 : Obj) (wv : List Value) (ew : Nat) : Nat → List Value → List (Addr × Obj) → Prop := fun (i : Nat) (ys : List Value) (G : List (Addr × Obj)) => Ex6 fun (pre cs : List Nat) (n : Int) (tn : Tok) (us : List Value) (e : Nat) => And9 (Pre pre) (cs = pre ++ textOf (R.drop i) ++ [122]) ((∀ c ∈ cs, c ∈ alpha)) (cs.length ≤ 101) (Chs us cs) (n + (cs.count 10 : Nat) = 1 + ((textOf R ++ [122]).count 10 : Nat)) (0 ≤ n) (StrsAre ys ((R.take i).map fun r => strOf (wordOf r.1))) (G = ((x, instObj 112 dx) :: (dx, lexD w.params a1 a2 a3 a4 a5 n tn f1 l) :: (l, listOf #[] 0) :: (f1, fo) :: (dd, od) :: (f2, ro) :: (cell, co) :: (Ds, listOf (List.toArray us) e) :: (Dw, listOf wv.toArray ew) :: (Dv, ob2) :: (c1, o1) :: (c2, o2) :: (c3, o3) :: (rest ++ lamG k1 k2 lo1 lo2)))
theorem seg3 (hK : PySem.Challenge.rw_pg0241_01 = PySem.Challenge.rw_pg0241_01 ∧ heapK = heapK) {w : World} {d : Nat} {fs : Option (List Env)} {gd : Option (List Code)} {u : Nat} {Q : Flow → Shared → Prop} {s : Shared} {g h : Heap} {t : Nat} {L c1 c2 c3 c4 c5 c6 c7 c8 c9 c10 Dv Dw : Addr} {o1 o2 o3 ob2 : Obj} {m : Str → Option Value} {rest : List (Addr × Obj)} {R : List Row} {nR : Nat}
  {x dx l f1 dd f2 cell Ds : Addr} {a1 a2 a3 a4 a5 tn : Tok} {fo od co ro : Obj} {k1 k2 : Addr} {lo1 lo2 : Obj} {sg wv : List Value} {e ew : Nat} {tt : Tok}
  (B : Bs w g) (r : Rm ⟨none, d, fs, gd, u⟩ 80) (M : Stm Ds f1 dd f2 cell fo od co k2 ro) (TL : LamTab k1 k2 lo1 lo2) (hch : Chs sg (textOf R ++ [122])) (GR : GoodR R nR) (hnR : 6 ≤ nR ∧ nR ≤ 11)
  (d2 : o2.data = .cell (some (.ref Dw))) (d3 : o3.data = .cell (some (.ref x))) (hwv : StrsAre wv (R.map fun r => strOf (wordOf r.1)))
  (F : Fr g L h m) (N : News g L h ((x, instObj 112 dx) :: (dx, lexD w.params a1 a2 a3 a4 a5 1 tn f1 l) :: (l, listOf #[] 0) :: (f1, fo) :: (dd, od) :: (f2, ro) :: (cell, co) :: (Ds, listOf sg.toArray e) :: (Dw, listOf wv.toArray ew) :: (Dv, ob2) :: (c1, o1) :: (c2, o2) :: (c3, o3) :: (rest ++ lamG k1 k2 lo1 lo2)))
  (nd : (x :: dx :: l :: f1 :: dd :: f2 :: cell :: Ds :: Dw :: Dv :: c1 :: c2 :: c3 :: ads (rest ++ lamG k1 k2 lo1 lo2)).Nodup)
  (hm1 : m "text" = some (.str (strOf (textOf R ++ [122])) tt)) (hm2 : m "values" = some (.ref Dv)) (hm3 : m "signs" = some (.ref Ds))
  (hQ : ∀ (h : Heap) (t : Nat) (m : Str → Option Value) (D : Addr) (ys : List Value) (e4 : Nat) (pre : List Nat) (n : Int) (tn : Tok) (us : List Value) (e : Nat) (tu : Tok), Pre pre → Chs us (pre ++ [122]) → 0 ≤ n → n + ((pre ++ [122]).count 10 : Nat) = 1 + ((textOf R ++ [122]).count 10 : Nat) → StrsAre ys (R.map fun r => strOf (wordOf r.1)) → Fr g L h m →
    News g L h ((D, listOf ys.toArray e4) :: ((x, instObj 112 dx) :: (dx, lexD w.params a1 a2 a3 a4 a5 n tn f1 l) :: (l, listOf #[] 0) :: (f1, fo) :: (dd, od) :: (f2, ro) :: (cell, co) :: (Ds, listOf (List.toArray us) e) :: (Dw, listOf wv.toArray ew) :: (Dv, ob2) :: (c1, o1) :: (c2, o2) :: (c3, o3) :: (rest ++ lamG k1 k2 lo1 lo2))) → (D :: x :: dx :: l :: f1 :: dd :: f2 :: cell :: Ds :: Dw :: Dv :: c1 :: c2 :: c3 :: ads (rest ++ lamG k1 k2 lo1 lo2)).Nodup →
    m "told" = some (.ref D) → m "unread" = some (.int (us.toArray.size : Nat) tu) → m "text" = some (.str (strOf (textOf R ++ [122])) tt) → m "values" = some (.ref Dv) → m "signs" = some (.ref Ds) →
    wpAny (model P0 w) ⟨none, d, fs, gd, u⟩ (execs ((lawBody w.params).drop 13) (lawEnv w.params L c1 c2 c3 c4 c5 c6 c7 c8 c9 c10)) Q (fun _ _ => False) (At s h t)) :
  wpAny (model P0 w) ⟨none, d, fs, gd, u⟩ (execs ((lawBody w.params).drop 10) (lawEnv w.params L c1 c2 c3 c4 c5 c6 c7 c8 c9 c10)) Q (fun _ _ => False) (At s h t) := by
  revert hK; k_fill; intro hK; clear hK
  obtain ⟨p, loose, mean, mg, mb, T⟩ := B.T
  have X := B.X
  have htl : (textOf R).length ≤ 99 := by
    have := text_le (R := R) fun r hr => by have := (GR.le r hr).1; omega
    rw [GR.len] at this; omega
  dsimp only [At]
  (rw [show (lawBody w.params).drop 10 = stm w.params 10 :: (lawBody w.params).drop 11 from rfl]; conv in (stm w.params 10) => whnf)
  walk_at "stms"
  refine compU (cl := [("reader", c3)]) (by with_unfolding_all rfl) (by rfl) (by decide) rfl (by decide) (by decide) (by rfl) (by rfl) ?_
  walk_at "stms"
  with_reducible rename Fr _ _ _ _ => Fx
  with_reducible rename News _ _ _ _ => Nx
  refine iterList Fx Nx (News.isList Nx (by k_mem)) (fun I h2 o0 F2 N2 l2 hit0 hl0 hDI => ?_)
  have nd2 := nd_cons nd rfl l2
  clear Fx Nx
  have hwl : wv.toArray.size = nR := by rw [List.size_toArray, StrsAre.len hwv, List.length_map, GR.len]
  refine compG_list (L := L) rfl rfl B F2 N2 nd2 hit0 (D0 := Dw) (items := wv.toArray) (e0 := ew) (by k_mem)
    (JL4a w c1 c2 c3 Dv Dw o1 o2 o3 ob2 rest R x dx l f1 dd f2 cell Ds a1 a2 a3 a4 a5 fo od co ro k1 k2 lo1 lo2 wv ew)
    ?J0 ?Jl ?JG ?turn ?fin
  case J0 =>
    refine ⟨[], textOf R ++ [122], 1, tn, sg, e, .inl rfl, ?_, tx_alpha R, ?_, hch, rfl, by decide, StrsAre.nil, rfl⟩
    · rfl
    · rw [List.length_append, List.length_singleton]; omega
  case Jl =>
    rintro i ys G ⟨pre, cs, n, tn, us, e, h1, h2, h3, h4, h5, h6, h7, h8, h9⟩
    rw [StrsAre.len h8, List.length_map, List.length_take]
    have := GR.len
    omega
  case JG =>
    rintro i ys G ⟨pre, cs, n, tn, us, e, h1, h2, h3, h4, h5, h6, h7, h8, rfl⟩
    k_mem
  case turn =>
    rintro g₂ C D i v ys G o' e3 h t m' gg₂ B₂ hi hP ⟨pre, cs, n, tn, us, e, h1, h2, h3, h4, h5, h6, h7, h8, rfl⟩ F3 N3 nd3
    clear F2 N2
    refine wpAny_tests_nil ?_
    rw [if_pos rfl]
    obtain ⟨p₂, loose₂, mean₂, mg₂, mb₂, T₂⟩ := B₂.T
    have X₂ := B₂.X
    walk_at "stms"
    obtain ⟨rw, hrw⟩ : ∃ q, R[i]? = some q := ⟨_, List.getElem?_eq_getElem (show i < R.length by rw [GR.len, ← hwl]; exact hi)⟩
    obtain ⟨post, hp, hT⟩ := t0_row hrw h1 [122]
    rw [← h2] at hT
    have hsf := t0_suf hT
    have hlen := hsf.length_le
    have hcnt := hsf.sublist.count_le 10
    have hNb : (cs.count 10 : Nat) ≤ 101 := Nat.le_trans List.count_le_length h4
    have hN0 : ((textOf R ++ [122]).count 10 : Nat) ≤ 100 := Nat.le_trans List.count_le_length (by rw [List.length_append, List.length_singleton]; omega)
    refine wpAny_call (get_read_ok ⟨rfl, rfl⟩ (S := Ds) (d := dd) (cell := cell) (f2 := f2) (l := l) (f1 := f1) (dx := dx) (x := x) B₂ F3.keep (r.less (by omega)) (own_of_news N3 fun p hp => .tail _ (.tail _ (List.mem_append_left _ hp))) (List.Nodup.sublist (List.sublist_append_left [x, dx, l, f1, dd, f2, cell, Ds] _) (ndt (ndt nd3))) M (lam_code TL N3 fun p hp => ?_) (by rw [h5.len]; omega) h5 hT h3 (by omega) h7 (by omega) (fun hp5 t5 tt5 n5 tn5 us5 e5 hch5 hn5 k5 O5 => ?_))
    · exact List.mem_append_right ((I, o') :: (D, listOf ys.toArray e3) :: (x, instObj 112 dx) :: (dx, lexD w.params a1 a2 a3 a4 a5 n tn f1 l) :: (l, listOf #[] 0) :: (f1, fo) :: (dd, od) :: (f2, ro) :: (cell, co) :: (Ds, listOf us.toArray e) :: (Dw, listOf wv.toArray ew) :: (Dv, ob2) :: (c1, o1) :: (c2, o2) :: (c3, o3) :: rest) hp
    obtain ⟨F5, N5⟩ := after_put [3, 9] F3 N3 nd3 rfl rfl k5 O5 rfl rfl
    replace N5 : News g₂ C hp5 ((I, o') :: (D, listOf ys.toArray e3) :: ((x, instObj 112 dx) :: (dx, lexD w.params a1 a2 a3 a4 a5 n5 tn5 f1 l) :: (l, listOf #[] 0) :: (f1, fo) :: (dd, od) :: (f2, ro) :: (cell, co) :: (Ds, listOf (List.toArray us5) e5) :: (Dw, listOf wv.toArray ew) :: (Dv, ob2) :: (c1, o1) :: (c2, o2) :: (c3, o3) :: (rest ++ lamG k1 k2 lo1 lo2))) := N5
    show TurnEnd _ _ _ _ _ _ _ _ _ _
    refine ⟨_, _, _, _, rfl, F5, N5, nd3, post, _, n5, tn5, us5, e5, hp, rfl, fun c hc => h3 c (hsf.subset hc), by omega, hch5, by omega, by omega, ?b1, rfl⟩
    case b1 =>
      rw [take_snoc' hrw, List.map_append]
      exact StrsAre.snoc h8
  case fin =>
    rintro D ys G e4 h t ⟨pre, cs, n, tn, us, e, h1, h2, h3, h4, h5, h6, h7, h8, rfl⟩ F3 N3 nd3 h' t' F4 N4
    clear F2 N2 F3 N3
    dsimp only [At]
    (rw [show (lawBody w.params).drop 11 = stm w.params 11 :: (lawBody w.params).drop 12 from rfl]; conv in (stm w.params 11) => whnf)
    walk_at "stms"
    rw [List.take_of_length_le (by rw [GR.len, hwl]; exact Nat.le_refl _)] at h8
    refine kt_ne (News.isList N4 (by k_mem)) (News.isList N4 (by k_mem)) h8 hwv ?z1 ?z1 (Rm.u64 r) ?_
    case z1 =>
      intro z hz
      obtain ⟨q, _, rfl⟩ := List.mem_map.mp hz
      exact word_ok _
    rw [decide_eq_true rfl]
    walk_at "stms"
    have hul : us.toArray.size ≤ 101 := by rw [List.size_toArray, h5.len]; exact h4
    (rw [show (lawBody w.params).drop 12 = stm w.params 12 :: (lawBody w.params).drop 13 from rfl]; conv in (stm w.params 12) => whnf)
    walk_at "stms"
    refine len_list (News.isList N4 (show (Ds, _) ∈ _ by k_mem)) (by omega) ?_
    walk_at "stms"
    with_reducible rename Fr _ _ _ _ => Fx
    with_reducible rename News _ _ _ _ => Nx
    refine' hQ _ _ _ D ys e4 pre n tn us e _ h1 (by rw [hwl, ← GR.len, List.drop_length] at h2; rw [h2] at h5; simpa [textOf] using h5) ?n0 (by rw [hwl, ← GR.len, List.drop_length] at h2; rw [h2] at h6; simpa [textOf] using h6) h8 Fx Nx nd3 rfl ?n1 hm1 hm2 hm3
    case n0 => exact h7
    case n1 => rfl
end
section
example : True := by w_top off; trivial
/-! a word's number -/
def digOf (v : Nat) : List Nat := if h : v = 0 then [] else v % 8 :: digOf (v / 8)
termination_by v
decreasing_by omega
theorem digOf_zero : digOf 0 = [] := by rw [digOf]; rfl
theorem digOf_pos {v : Nat} (h : 0 < v) : digOf v = v % 8 :: digOf (v / 8) := by
  rw [digOf, dif_neg (by omega)]
theorem wordOf_dig (v : Nat) : wordOf v = (digOf v).map lett := by
  induction v using Nat.strongRecOn with
  | ind v ih =>
    by_cases h : v = 0
    · subst h; rw [wordOf_zero, digOf_zero]; rfl
    · rw [wordOf_pos (by omega), digOf_pos (by omega), List.map_cons, ih (v / 8) (by omega)]
theorem digOf_lt (v : Nat) : ∀ d ∈ digOf v, d < 8 := by
  induction v using Nat.strongRecOn with
  | ind v ih =>
    by_cases h : v = 0
    · subst h; rw [digOf_zero]; intro d hd; cases hd
    · rw [digOf_pos (by omega)]
      intro d hd
      rcases List.mem_cons.mp hd with rfl | hd
      · exact Nat.mod_lt _ (by decide)
      · exact ih (v / 8) (by omega) d hd
theorem gD_digOf (v : Nat) : gD 3 (digOf v) = v := by
  induction v using Nat.strongRecOn with
  | ind v ih =>
    by_cases h : v = 0
    · subst h; rw [digOf_zero]; rfl
    · rw [digOf_pos (by omega), gD, ih (v / 8) (by omega)]
      have := Nat.div_add_mod v 8
      omega
theorem digOf_len (v : Nat) : (digOf v).length = (wordOf v).length := by rw [wordOf_dig, List.length_map]
/-- the table of the numbers -/
def numT (R : List Row) : List (Str × Int) := R.map fun r => (strOf (wordOf r.1), (r.1 : Int))
theorem strOf_inj {a b : List Nat} (h : strOf a = strOf b) : a = b := by
  unfold strOf at h
  injection h with h
  simpa using h
theorem num_put {R : List Row} {v b s : Nat} (h : ∀ r ∈ R, r.1 ≠ v) : kdpPut (numT R) (strOf (wordOf v)) (v : Int) = numT (R ++ [(v, b, s)]) := by
  unfold kdpPut numT
  rw [if_neg, List.map_append]
  · rfl
  · intro hh
    rw [List.any_map, List.any_eq_true] at hh
    obtain ⟨r, hr, e⟩ := hh
    exact h r hr (wordOf_inj (strOf_inj (of_decide_eq_true e)))
theorem num_has {R : List Row} {r : Row} (h : r ∈ R) : kdpHas (numT R) (strOf (wordOf r.1)) = true := by
  unfold kdpHas numT
  rw [List.any_map, List.any_eq_true]
  exact ⟨r, h, decide_eq_true rfl⟩
theorem num_look {R : List Row} {r : Row} (h : r ∈ R) (d : Int) : kdpLook (numT R) (strOf (wordOf r.1)) d = (r.1 : Int) := by
  unfold kdpLook numT
  induction R with
  | nil => cases h
  | cons q R ih =>
    rw [List.map_cons, List.find?_cons]
    by_cases e : strOf (wordOf q.1) = strOf (wordOf r.1)
    · rw [decide_eq_true e]
      have := wordOf_inj (strOf_inj e)
      show (q.1 : Int) = r.1
      rw [this]
    · rw [decide_eq_false e]
      refine ih ?_
      rcases List.mem_cons.mp h with rfl | h
      · exact absurd rfl e
      · exact h
theorem strs_at {vs : List Value} {ys : List Str} (h : StrsAre vs ys) : ∀ {j : Nat} {v : Value}, vs[j]? = some v → ∃ (y : Str) (t : Tok), ys[j]? = some y ∧ v = .str y t := by
  induction h with
  | nil => intro j v hj; simp at hj
  | cons y t r ih =>
    intro j v hj
    cases j with
    | zero => exact ⟨y, t, rfl, by simpa using hj.symm⟩
    | succ j => exact ih (by simpa using hj)
theorem row_at {R : List Row} {i : Nat} {y : Str} (h : (R.map fun r => strOf (wordOf r.1))[i]? = some y) : ∃ r, R[i]? = some r ∧ y = strOf (wordOf r.1) := by
  rw [List.getElem?_map] at h
  cases e : R[i]? with
  | none => rw [e] at h; cases h
  | some r => rw [e] at h; exact ⟨r, rfl, (Option.some.inj h).symm⟩
theorem idx_ok {j : Nat} (h : j < 8) : (Builtin.Str.occurrences (Str.ofString "a \\\"\nb\t#") ⟨#[lett j]⟩ 0 (Str.ofString "a \\\"\nb\t#").length 1).isEmpty = false ∧ Txt.find (Str.ofString "a \\\"\nb\t#") ⟨#[lett j]⟩ = (j : Int) := by
  have : ∀ k : Fin 8, (Builtin.Str.occurrences (Str.ofString "a \\\"\nb\t#") ⟨#[lett k.val]⟩ 0 (Str.ofString "a \\\"\nb\t#").length 1).isEmpty = false ∧ Txt.find (Str.ofString "a \\\"\nb\t#") ⟨#[lett k.val]⟩ = (k.val : Int) := by decide +kernel
  exact this ⟨j, h⟩
theorem gD3 (v : Nat) : gD 3 (digOf v) = v := gD_digOf v
theorem inc_take {R : List Row} {k i : Nat} {r : Row} (G : GoodR R k) (h : R[i]? = some r) : ∀ q ∈ R.take i, q.1 < r.1 := by
  obtain ⟨hi, he⟩ := List.getElem?_eq_some_iff.mp h
  have e : R = R.take i ++ r :: R.drop (i + 1) := by rw [← he, ← List.drop_eq_getElem_cons hi, List.take_append_drop]
  have := G.inc
  rw [e, List.pairwise_append] at this
  exact fun q hq => this.2.2 q hq r (.head _)
theorem num_take {R : List Row} {k i : Nat} {r : Row} (G : GoodR R k) (h : R[i]? = some r) : kdpPut (numT (R.take i)) (strOf (wordOf r.1)) (r.1 : Int) = numT (R.take (i + 1)) := by
  rw [take_snoc' h, num_put (b := r.2.1) (s := r.2.2) fun q hq => Nat.ne_of_lt (inc_take G h q hq)]
theorem num_len (R : List Row) : (numT R).length = R.length := List.length_map ..
/-! the ledger in another order -/
theorem nd_pick {pre tail : List (Addr × Obj)} {is : List Nat} (nd : ((pre ++ tail).map (·.1)).Nodup) (h : is.Nodup) : ((pick pre is ++ tail).map (·.1)).Nodup := by
  rw [List.map_append, List.nodup_append] at nd ⊢
  have hsub : ∀ p ∈ pick pre is, p ∈ pre := fun p hp => by
    obtain ⟨i, _, e⟩ := List.mem_filterMap.mp hp
    exact List.mem_of_getElem? e
  refine ⟨?_, nd.2.1, fun a ha b hb => ?_⟩
  · have key : ∀ is : List Nat, is.Nodup → ((pick pre is).map (·.1)).Nodup := by
      intro is
      induction is with
      | nil => intro _; exact List.nodup_nil
      | cons i is ih =>
        intro h
        have h2 := List.nodup_cons.mp h
        unfold pick
        rw [List.filterMap_cons]
        cases e : pre[i]? with
        | none => exact ih h2.2
        | some q =>
          show (q.1 :: (pick pre is).map (·.1)).Nodup
          refine List.nodup_cons.mpr ⟨fun hm => ?_, ih h2.2⟩
          obtain ⟨p, hp, e2⟩ := List.mem_map.mp hm
          obtain ⟨j, hj, e3⟩ := List.mem_filterMap.mp hp
          have a1 : (pre.map (·.1))[i]? = some q.1 := by rw [List.getElem?_map, e]; rfl
          have a2 : (pre.map (·.1))[j]? = some q.1 := by rw [List.getElem?_map, e3]; exact congrArg some e2
          obtain ⟨b1, d1⟩ := List.getElem?_eq_some_iff.mp a1
          obtain ⟨b2, d2⟩ := List.getElem?_eq_some_iff.mp a2
          have P := List.pairwise_iff_getElem.mp nd.1
          rcases Nat.lt_trichotomy i j with q | q | q
          · exact absurd (d1.trans d2.symm) (P i j b1 b2 q)
          · exact h2.1 (q ▸ hj)
          · exact absurd (d2.trans d1.symm) (P j i b2 b1 q)
    exact key is h
  · obtain ⟨p, hp, rfl⟩ := List.mem_map.mp ha
    exact nd.2.2 p.1 (List.mem_map_of_mem (hsub p hp)) b hb
theorem news_pick {g h : Heap} {L : Addr} {pre tail : List (Addr × Obj)} {is : List Nat} (N : News g L h (pre ++ tail)) : News g L h (pick pre is ++ tail) := fun p hp => by
  rcases List.mem_append.mp hp with hp | hp
  · obtain ⟨i, _, e⟩ := List.mem_filterMap.mp hp
    exact N p (List.mem_append_left _ (List.mem_of_getElem? e))
  · exact N p (List.mem_append_right _ hp)
theorem news_swap {g h : Heap} {L : Addr} {pre a b : List (Addr × Obj)} (N : News g L h (pre ++ (a ++ b))) : News g L h (pre ++ (b ++ a)) := fun p hp => N p (by
  simp only [List.mem_append] at hp ⊢
  rcases hp with hp | hp | hp
  · exact .inl hp
  · exact .inr (.inr hp)
  · exact .inr (.inl hp))
theorem nd_swap {pre a b : List (Addr × Obj)} (nd : ((pre ++ (a ++ b)).map (·.1)).Nodup) : ((pre ++ (b ++ a)).map (·.1)).Nodup :=
  ads_perm nd (List.Perm.append_left pre List.perm_append_comm)
/-- a fact that the walk shall not look at -/
structure Hid (P : Prop) : Prop where
  h : P
end
section
example : True := by w_top off; trivial
abbrev JL5a (w : World) (g : Heap) (L : Addr) (c1 : Addr) (c2 : Addr) (c3 : Addr) (c4 : Addr) (c5 : Addr) (Dv : Addr) (Dw : Addr) (D : Addr) (o1 : Obj) (o2 : Obj) (o3 : Obj) (o5 : Obj) (oS : Obj) (oW : Obj) (fo : Obj) (od : Obj) (ro : Obj) (co : Obj) (m : Str → Option Value) (rst : List (Addr × Obj)) (R : List Row) (x : Addr) (dx : Addr) (l : Addr) (f1 : Addr) (dd : Addr) (f2 : Addr) (cell : Addr) (Ds : Addr) (a1 : Tok) (a2 : Tok) (a3 : Tok) (a4 : Tok) (a5 : Tok) (tn : Tok) (n : Int) (vv : List Value) (ys : List Value) (e4 : Nat) (ev : Nat) (Dn : Addr) (o4' : Obj) (I : Addr) : Nat → Heap → Prop := fun (i : Nat) (h : Heap) => Ex7 fun (m' : Str → Option Value) (o oN : Obj) (kvs : List (Str × Value)) (pb : List Value) (ep : Nat) (G2' : List (Addr × Obj)) => And9 (Fr g L h m') (News g L h ((I, o) :: (Dn, oN) :: (D, listOf ys.toArray e4) :: (x, instObj 112 dx) :: (dx, lexD w.params a1 a2 a3 a4 a5 n tn f1 l) :: (l, listOf (List.toArray pb) ep) :: (f1, fo) :: (dd, od) :: (f2, ro) :: (cell, co) :: (Ds, oS) :: (Dw, oW) :: (Dv, listOf vv.toArray ev) :: (c1, o1) :: (c2, o2) :: (c3, o3) :: (c4, o4') :: (c5, o5) :: (rst ++ G2'))) ((I :: Dn :: D :: x :: dx :: l :: f1 :: dd :: f2 :: cell :: Ds :: Dw :: Dv :: c1 :: c2 :: c3 :: c4 :: c5 :: ads (rst ++ G2')).Nodup) (h.IsListIter I D i) (TabSt 55 88 4 "_digits2int.<locals>.inner" G2') (Obj.IsDictOf (PySem.strKind P0 w) oN kvs) (PyProof.V.FlatPairs PyData.str kvs (kdpD (numT (R.take i)))) (StrsAre pb ((R.take i).map fun r => strOf (wordOf r.1))) (∀ y : Str, y ≠ "word" → m' y = m y)
theorem seg4 (hK : PySem.Challenge.rw_pg0241_01 = PySem.Challenge.rw_pg0241_01 ∧ heapK = heapK) {w : World} {d : Nat} {fs : Option (List Env)} {gd : Option (List Code)} {u : Nat} {Q : Flow → Shared → Prop} {s : Shared} {g h : Heap} {t : Nat} {L c1 c2 c3 c4 c5 c6 c7 c8 c9 c10 Dv Dw D : Addr} {o1 o2 o3 o4 o5 oS oW fo od ro co : Obj} {m : Str → Option Value} {rst G2 : List (Addr × Obj)} {R : List Row} {nR : Nat}
  {x dx l f1 dd f2 cell Ds : Addr} {a1 a2 a3 a4 a5 tn tl : Tok} {n : Int} {vv ys : List Value} {e4 ev : Nat}
  (B : Bs w g) (r : Rm ⟨none, d, fs, gd, u⟩ 80) (GR : GoodR R nR) (hnR : 6 ≤ nR ∧ nR ≤ 11) (TG : TabSt 55 88 4 "_digits2int.<locals>.inner" G2)
  (d1 : o1.data = .cell (some (.str (Str.ofString "a \\\"\nb\t#") tl))) (d3 : o3.data = .cell (some (.ref x))) (d4 : o4.data = .cell none) (d5 : o5.data = .cell none) (hys : StrsAre ys (R.map fun r => strOf (wordOf r.1))) (hvv : IntsAre vv (R.map fun r => (r.1 : Int)))
  (F : Fr g L h m) (N : News g L h ((D, listOf ys.toArray e4) :: (x, instObj 112 dx) :: (dx, lexD w.params a1 a2 a3 a4 a5 n tn f1 l) :: (l, listOf (List.toArray []) 0) :: (f1, fo) :: (dd, od) :: (f2, ro) :: (cell, co) :: (Ds, oS) :: (Dw, oW) :: (Dv, listOf vv.toArray ev) :: (c1, o1) :: (c2, o2) :: (c3, o3) :: (c4, o4) :: (c5, o5) :: (rst ++ G2)))
  (nd : (D :: x :: dx :: l :: f1 :: dd :: f2 :: cell :: Ds :: Dw :: Dv :: c1 :: c2 :: c3 :: c4 :: c5 :: ads (rst ++ G2)).Nodup)
  (hm1 : m "told" = some (.ref D)) (hm2 : m "values" = some (.ref Dv))
  (hQ : ∀ (h : Heap) (t : Nat) (m' : Str → Option Value) (Dn Dh : Addr) (oN o4 o5 : Obj) (kvs : List (Str × Value)) (ws pb : List Value) (e6 ep : Nat) (G2 : List (Addr × Obj)), (Dn == sysModules) = false → Obj.IsDictOf (PySem.strKind P0 w) oN kvs → PyProof.V.FlatPairs PyData.str kvs (kdpD (numT R)) → IntsAre ws (R.map fun r => (r.1 : Int)) → StrsAre pb (R.map fun r => strOf (wordOf r.1)) → Fr g L h m' →
    News g L h ((Dh, listOf ws.toArray e6) :: (Dn, oN) :: (D, listOf ys.toArray e4) :: (x, instObj 112 dx) :: (dx, lexD w.params a1 a2 a3 a4 a5 n tn f1 l) :: (l, listOf (List.toArray pb) ep) :: (f1, fo) :: (dd, od) :: (f2, ro) :: (cell, co) :: (Ds, oS) :: (Dw, oW) :: (Dv, listOf vv.toArray ev) :: (c1, o1) :: (c2, o2) :: (c3, o3) :: (c4, o4) :: (c5, o5) :: (rst ++ G2)) → (Dh :: Dn :: D :: x :: dx :: l :: f1 :: dd :: f2 :: cell :: Ds :: Dw :: Dv :: c1 :: c2 :: c3 :: c4 :: c5 :: ads (rst ++ G2)).Nodup → TabSt 55 88 4 "_digits2int.<locals>.inner" G2 → o4.data = .cell (some (.ref Dn)) → o5.data = .cell (some (.ref Dh)) → (∀ y : Str, y ≠ "word" → m' y = m y) →
    wpAny (model P0 w) ⟨none, d, fs, gd, u⟩ (execs ((lawBody w.params).drop 17) (lawEnv w.params L c1 c2 c3 c4 c5 c6 c7 c8 c9 c10)) Q (fun _ _ => False) (At s h t)) :
  wpAny (model P0 w) ⟨none, d, fs, gd, u⟩ (execs ((lawBody w.params).drop 13) (lawEnv w.params L c1 c2 c3 c4 c5 c6 c7 c8 c9 c10)) Q (fun _ _ => False) (At s h t) := by
  revert hK; k_fill; intro hK; clear hK
  obtain ⟨p, loose, mean, mg, mb, T⟩ := B.T
  have X := B.X
  dsimp only [At]
  (rw [show (lawBody w.params).drop 13 = stm w.params 13 :: (lawBody w.params).drop 14 from rfl]; conv in (stm w.params 13) => whnf)
  walk_at "stms"
  with_reducible rename Addr => Dn
  with_reducible rename Obj => o4'
  with_reducible rename (Obj.data _ = _) => d4'
  with_reducible rename (_ = false) => lo
  with_reducible rename Obj.IsDictOf (PySem.strKind _ _) _ _ => hs0
  with_reducible rename PyProof.V.FlatPairs PyData.str _ _ => hf0
  (rw [show (lawBody w.params).drop 14 = stm w.params 14 :: (lawBody w.params).drop 15 from rfl]; conv in (stm w.params 14) => whnf)
  walk_at "stms"
  refine wpAny_For ?_
  walk_at "stms"
  with_reducible rename Fr _ _ _ _ => Fx
  with_reducible rename News _ _ _ _ => Nx
  with_reducible rename List.Nodup _ => ndx
  refine iterList Fx Nx (News.isList Nx (.tail _ (.head _))) (fun I h2 o0 F2 N2 l2 hit0 hl0 hDI => ?_)
  have nd2 : (I :: Dn :: D :: x :: dx :: l :: f1 :: dd :: f2 :: cell :: Ds :: Dw :: Dv :: c1 :: c2 :: c3 :: c4 :: c5 :: ads (rst ++ G2)).Nodup := nd_cons ndx rfl l2
  have hsz : ys.toArray.size = nR := by rw [List.size_toArray, StrsAre.len hys, List.length_map, GR.len]
  refine forW (Walks.list rfl I D hDI ys.toArray)
    (JL5a w g L c1 c2 c3 c4 c5 Dv Dw D o1 o2 o3 o5 oS oW fo od ro co m rst R x dx l f1 dd f2 cell Ds a1 a2 a3 a4 a5 tn n vv ys e4 ev Dn o4' I)
    ?hJ ?h0 ?turn ?fin ?ht
  case ht => intro _; rfl
  case hJ =>
    rintro i h ⟨m', o, oN, kvs, pb, ep, G2', F, N, nd, hit, _⟩
    exact ⟨hit, News.isList N (by k_mem)⟩
  case h0 =>
    refine' ⟨_, o0, _, [], [], 0, G2, F2, N2, nd2, hit0, TG, hs0, ?a1, ?a2, ?a3⟩
    case a1 => exact hf0
    case a2 => exact StrsAre.nil
    case a3 => intro y _; rfl
  case turn =>
    clear F2 N2 nd2 Fx Nx ndx
    rintro i v h h' t hi hP ⟨m', o, oN, kvs, pb, ep, G2', F, N, ndi, hit, TG', hs, hf, hpb, hme⟩ hk ⟨⟨o', ho', hoc, hod⟩, _⟩
    obtain ⟨F, N⟩ := iter_turn F N ndi hk ho'
    obtain ⟨yw, tw, hyw, rfl⟩ := strs_at hys (j := i) (by simpa using hP)
    obtain ⟨rw, hrw, rfl⟩ := row_at hyw
    have hrm := List.mem_of_getElem? hrw
    have hwl : (wordOf rw.1).length ≤ 3 := wordOf_len (by have := (GR.le rw hrm).1; omega)
    have g1 : m' "told" = some (.ref D) := (hme _ (by decide)).trans hm1
    have hpl : pb.length ≤ 11 := by rw [StrsAre.len hpb, List.length_map, List.length_take]; have := GR.len; omega
    dsimp only [At]
    walk_at "stms"
    with_reducible rename Fr _ _ _ _ => Fx
    with_reducible rename News _ _ _ _ => Nx
    refine wpAny_call (push_ok ⟨rfl, rfl⟩ (x := x) (dx := dx) (l := l) B Fx.keep (r.less (by omega)) (own_of_news Nx fun p hp => .tail _ (.tail _ (.tail _ (List.mem_append_left _ hp)))) (List.Nodup.sublist (List.sublist_append_left [x, dx, l] _) (ndt (ndt (ndt ndi)))) (by omega) (fun h5 t5 e5 k5 O5 => ?_))
    obtain ⟨F5, N5⟩ := after_put [5] Fx Nx ndi rfl rfl k5 O5 rfl rfl
    replace N5 : News g L h5 ((I, o') :: (Dn, oN) :: (D, listOf ys.toArray e4) :: (x, instObj 112 dx) :: (dx, lexD w.params a1 a2 a3 a4 a5 n tn f1 l) :: (l, listOf (List.toArray (pb ++ [Value.str (strOf (wordOf rw.1)) tw])) e5) :: (f1, fo) :: (dd, od) :: (f2, ro) :: (cell, co) :: (Ds, oS) :: (Dw, oW) :: (Dv, listOf vv.toArray ev) :: (c1, o1) :: (c2, o2) :: (c3, o3) :: (c4, o4') :: (c5, o5) :: (rst ++ G2')) := N5
    clear Fx Nx
    dsimp only
    walk_at "stms"
    refine compE (cl := [("letters", c1)]) (by rfl) (by decide) rfl (by decide) (by decide) ?_
    walk_at "stms"
    refine iterStr F5 N5 (alpha_asc (wordOf_alpha _)) (fun I6 h6 o6 F6 N6 l6 hit6 => ?_)
    have nd6 := nd_cons ndi rfl l6
    refine compG_str (L := L) rfl rfl B F6 N6 nd6 hit6 (fun i ds G => G = ((I, o') :: (Dn, oN) :: (D, listOf ys.toArray e4) :: (x, instObj 112 dx) :: (dx, lexD w.params a1 a2 a3 a4 a5 n tn f1 l) :: (l, listOf (List.toArray (pb ++ [Value.str (strOf (wordOf rw.1)) tw])) e5) :: (f1, fo) :: (dd, od) :: (f2, ro) :: (cell, co) :: (Ds, oS) :: (Dw, oW) :: (Dv, listOf vv.toArray ev) :: (c1, o1) :: (c2, o2) :: (c3, o3) :: (c4, o4') :: (c5, o5) :: (rst ++ G2')) ∧ IntsAre ds (((digOf rw.1).take i).map (Nat.cast : Nat → Int))) ?J0 ?Jl ?jturn ?jfin
    case J0 => exact ⟨rfl, IntsAre.nil⟩
    case Jl =>
      rintro i ds G ⟨rfl, hi⟩
      have := hi.length
      rw [List.length_map, List.length_take, digOf_len] at this
      omega
    case jturn =>
      rintro g₂ C D6 i6 v6 ds G oi e6 h7 t7 m7 gg₂ B₂ hi6 ⟨c, uc, hc, rfl⟩ ⟨rfl, hds⟩ F7 N7 nd7
      clear F6 N6 F5 N5
      obtain ⟨dg, hdg, rfl⟩ : ∃ dg, (digOf rw.1)[i6]? = some dg ∧ c = lett dg := by
        have hc2 : (wordOf rw.1)[i6]? = some c := by simpa [strOf] using hc
        rw [wordOf_dig, List.getElem?_map] at hc2
        cases e : (digOf rw.1)[i6]? with
        | none => rw [e] at hc2; cases hc2
        | some dg => rw [e] at hc2; exact ⟨dg, rfl, (Option.some.inj hc2).symm⟩
      have hd8 := digOf_lt _ dg (List.mem_of_getElem? hdg)
      refine wpAny_tests_nil ?_
      rw [if_pos rfl]
      obtain ⟨p₂, loose₂, mean₂, mg₂, mb₂, T₂⟩ := B₂.T
      have X₂ := B₂.X
      obtain ⟨hocc, hfind⟩ := idx_ok hd8
      walk_at "stms"
      rw [hfind]
      show TurnEnd _ _ _ _ _ _ _ _ _ _
      refine ⟨_, _, _, _, rfl, F7, N7, nd7, rfl, ?_⟩
      rw [take_snoc' hdg, List.map_append]
      exact ints_app hds (IntsAre.cons _ _ IntsAre.nil)
    case jfin =>
      rintro D6 ds G e6 h7 t7 ⟨rfl, hds⟩ F7 N7 nd7
      clear F6 N6 F5 N5
      rw [List.take_of_length_le (by rw [digOf_len]; simp [strOf])] at hds
      dsimp only [At]
      walk_at "stms"
      have ndd : (D6 :: ads G2').Nodup := nd_sub (news := (D6, listOf ds.toArray e6) :: (((I, o') :: (Dn, oN) :: (D, listOf ys.toArray e4) :: (x, instObj 112 dx) :: (dx, lexD w.params a1 a2 a3 a4 a5 n tn f1 l) :: (l, listOf (List.toArray (pb ++ [Value.str (strOf (wordOf rw.1)) tw])) e5) :: (f1, fo) :: (dd, od) :: (f2, ro) :: (cell, co) :: (Ds, oS) :: (Dw, oW) :: (Dv, listOf vv.toArray ev) :: (c1, o1) :: (c2, o2) :: (c3, o3) :: (c4, o4') :: (c5, o5) :: rst) ++ G2')) (news' := (D6, listOf ds.toArray e6) :: G2') nd7 (List.Sublist.cons_cons _ (List.sublist_append_right _ _))
      have hown : Own g h7 ((D6, listOf ds.toArray e6) :: G2') := own_of_news N7 fun p hp => (List.mem_cons.mp hp).elim (fun e => e ▸ .head _) fun hp => .tail _ (List.mem_append_right ((I, o') :: (Dn, oN) :: (D, listOf ys.toArray e4) :: (x, instObj 112 dx) :: (dx, lexD w.params a1 a2 a3 a4 a5 n tn f1 l) :: (l, listOf (List.toArray (pb ++ [Value.str (strOf (wordOf rw.1)) tw])) e5) :: (f1, fo) :: (dd, od) :: (f2, ro) :: (cell, co) :: (Ds, oS) :: (Dw, oW) :: (Dv, listOf vv.toArray ev) :: (c1, o1) :: (c2, o2) :: (c3, o3) :: (c4, o4') :: (c5, o5) :: rst) hp)
      refine wpAny_call (digits2int_ok ⟨rfl, rfl⟩ (n := 3) (e := e6) (vs := ds) B F7.keep (r.less (by omega)) hown TG' ndd hds (by decide) (by decide) (digOf_lt _) (by rw [digOf_len]; omega) (fun h8 t8 tv8 G8 k8 O8 TG8 hnew8 nd8 => ?_))
      obtain ⟨F8, N8, nd9⟩ := after_tail (pre := (D6, listOf ds.toArray e6) :: ((I, o') :: (Dn, oN) :: (D, listOf ys.toArray e4) :: (x, instObj 112 dx) :: (dx, lexD w.params a1 a2 a3 a4 a5 n tn f1 l) :: (l, listOf (List.toArray (pb ++ [Value.str (strOf (wordOf rw.1)) tw])) e5) :: (f1, fo) :: (dd, od) :: (f2, ro) :: (cell, co) :: (Ds, oS) :: (Dw, oW) :: (Dv, listOf vv.toArray ev) :: (c1, o1) :: (c2, o2) :: (c3, o3) :: (c4, o4') :: (c5, o5) :: rst)) F7 N7 nd7 k8 (fun p hp => O8 p (.tail _ hp)) hnew8 (ndt nd8)
      replace N8 : News g L h8 ((D6, listOf ds.toArray e6) :: (I, o') :: (Dn, oN) :: (D, listOf ys.toArray e4) :: (x, instObj 112 dx) :: (dx, lexD w.params a1 a2 a3 a4 a5 n tn f1 l) :: (l, listOf (List.toArray (pb ++ [Value.str (strOf (wordOf rw.1)) tw])) e5) :: (f1, fo) :: (dd, od) :: (f2, ro) :: (cell, co) :: (Ds, oS) :: (Dw, oW) :: (Dv, listOf vv.toArray ev) :: (c1, o1) :: (c2, o2) :: (c3, o3) :: (c4, o4') :: (c5, o5) :: (rst ++ G8)) := N8
      replace nd9 : (D6 :: I :: Dn :: D :: x :: dx :: l :: f1 :: dd :: f2 :: cell :: Ds :: Dw :: Dv :: c1 :: c2 :: c3 :: c4 :: c5 :: ads (rst ++ G8)).Nodup := nd9
      clear F7 N7 nd7
      rw [gD3]
      dsimp only
      walk_at "stms"
      refine kdp_setItem F8 N8 (updF_s nd9 rfl (updF_s (ndt nd9) rfl (updF_z (ndt (ndt nd9)) rfl))) hs hf (by rw [num_len, List.length_take]; omega) (fun h9 oN9 kvs9 F9 N9 hs9 hf9 => ?_)
      rw [num_take GR hrw] at hf9
      clear F8 N8
      walk_at "stms"
      refine' ⟨_, _, rfl, _, o', oN9, kvs9, pb ++ [_], e5, G8, F9, fun p hp => N9 p (.tail _ hp), ndt nd9, ?b4, TG8, hs9, hf9, ?b5, ?b6⟩
      case b4 => exact ⟨o', (N9 _ (.tail _ (.head _))).1, hoc, hod⟩
      case b5 =>
        rw [take_snoc' hrw, List.map_append]
        exact StrsAre.snoc hpb
      case b6 =>
        intro y hy
        exact (if_neg hy).trans (hme y hy)
  case fin =>
    rintro h h' t ⟨m', o, oN, kvs, pb, ep, G2', F, N, ndi, hit, TG', hs, hf, hpb, hme⟩ hk
    obtain ⟨F, N⟩ := iter_end F N ndi hk
    replace ndi := ndt ndi
    clear F2 N2 nd2 Fx Nx ndx hs0 hf0
    have g1 : m' "told" = some (.ref D) := (hme _ (by decide)).trans hm1
    have g2 : m' "values" = some (.ref Dv) := (hme _ (by decide)).trans hm2
    rw [hsz, List.take_of_length_le (by rw [GR.len]; exact Nat.le_refl _)] at hf hpb
    dsimp only [At]
    walk_at "stms"
    with_reducible rename Fr _ _ _ _ => Fy
    with_reducible rename News _ _ _ _ => Ny
    (rw [show (lawBody w.params).drop 15 = stm w.params 15 :: (lawBody w.params).drop 16 from rfl]; conv in (stm w.params 15) => whnf)
    walk_at "stms"
    refine wpAny_Assign_Name ?_
    refine compE (cl := [("number", c4)]) (by rfl) (by decide) rfl (by decide) (by decide) ?_
    walk_at "stms"
    refine iterList Fy Ny (News.isList Ny (.tail _ (.head _))) (fun I6 h6 o6 F6 N6 l6 hit6 hl6 hDI6 => ?_)
    have nd6 := nd_cons ndi rfl l6
    clear Fy Ny
    refine compG_list (L := L) rfl rfl B F6 N6 nd6 hit6 (D0 := D) (items := ys.toArray) (e0 := e4) (.tail _ (.head _))
      (fun i ws G => G = ((Dn, oN) :: (D, listOf ys.toArray e4) :: (x, instObj 112 dx) :: (dx, lexD w.params a1 a2 a3 a4 a5 n tn f1 l) :: (l, listOf (List.toArray pb) ep) :: (f1, fo) :: (dd, od) :: (f2, ro) :: (cell, co) :: (Ds, oS) :: (Dw, oW) :: (Dv, listOf vv.toArray ev) :: (c1, o1) :: (c2, o2) :: (c3, o3) :: (c4, o4') :: (c5, o5) :: (rst ++ G2')) ∧ IntsAre ws ((R.take i).map fun r => (r.1 : Int))) ?J0 ?Jl ?JG ?jturn ?jfin
    case J0 => exact ⟨rfl, IntsAre.nil⟩
    case Jl =>
      rintro i ws G ⟨rfl, hi⟩
      have := hi.length
      rw [List.length_map, List.length_take] at this
      have := GR.len
      omega
    case JG =>
      rintro i ws G ⟨rfl, hi⟩
      exact .tail _ (.head _)
    case jturn =>
      rintro g₂ C D6 i6 v6 ws G oi e6 h7 t7 m7 gg₂ B₂ hi6 hP6 ⟨rfl, hws⟩ F7 N7 nd7
      clear F6 N6
      obtain ⟨yw, tw, hyw, rfl⟩ := strs_at hys (j := i6) (by simpa using hP6)
      obtain ⟨rw, hrw, rfl⟩ := row_at hyw
      refine wpAny_tests_nil ?_
      rw [if_pos rfl]
      walk_at "stms"
      refine kdp_item (c := numT R) (PyProof.Rows.TabAt.ofNews N7 (.tail _ (.tail _ (.head _))) lo hs hf) (num_has (List.mem_of_getElem? hrw)) (fun tk8 => ?_)
      rw [num_look (List.mem_of_getElem? hrw)]
      show TurnEnd _ _ _ _ _ _ _ _ _ _
      refine ⟨_, _, _, _, rfl, F7, N7, nd7, rfl, ?_⟩
      rw [take_snoc' hrw, List.map_append]
      exact ints_app hws (IntsAre.cons _ _ IntsAre.nil)
    case jfin =>
      rintro D6 ws G e6 h7 t7 ⟨rfl, hws⟩ F7 N7 nd7
      clear F6 N6
      rw [hsz, List.take_of_length_le (by rw [GR.len]; exact Nat.le_refl _)] at hws
      dsimp only [At]
      walk_at "stms"
      with_reducible rename (Obj.data _ = _) => d5'
      with_reducible rename Obj => o5'
      with_reducible rename Fr _ _ _ _ => Fy
      with_reducible rename News _ _ _ _ => Ny
      (rw [show (lawBody w.params).drop 16 = stm w.params 16 :: (lawBody w.params).drop 17 from rfl]; conv in (stm w.params 16) => whnf)
      walk_at "stms"
      refine ke_ne_ints (News.isList Ny (.head _)) (News.isList Ny (by k_mem)) hws hvv (Rm.u64 r) ?_
      rw [decide_eq_true rfl]
      walk_at "stms"
      exact hQ _ _ m' Dn D6 oN _ o5' kvs ws pb e6 ep G2' lo hs hf hws hpb Fy Ny nd7 TG' d4' d5' hme
end
section
example : True := by w_top off; trivial
def Post5 (w : World) (d : Nat) (fs : Option (List Env)) (gd : Option (List Code)) (u : Nat) (Q : Flow → Shared → Prop) (s : Shared) (g h : Heap) (t : Nat) (L c1 c2 c3 c4 c5 c6 c7 c8 c9 c10 Dw D : Addr) (o2 o6 o7 o8 : Obj) (m : Str → Option Value) (rst : List (Addr × Obj)) (R : List Row) (nR : Nat) (k1 k2 : Addr) (lo1 lo2 : Obj) (ys wv : List Value) (e4 ew : Nat) : Prop :=
  ∀ (h : Heap) (t : Nat) (m' : Str → Option Value) (x dx l Dst Dm Dl Dsk f1 : Addr) (a1 a2 a3 a4 a5 tn : Tok) (o6 o7 o8 : Obj) (zs : List Value) (e6 : Nat) (tl tc : Tok) (rl : Row), R[nR - 1]? = some rl → IntsAre zs ((List.range nR).map (Nat.cast : Nat → Int)) → Fr g L h m' →
    News g L h ((Dsk, listOf #[] 0) :: (Dl, listOf zs.toArray e6) :: (Dm, listOf #[] 0) :: (Dst, listOf #[] 0) :: (x, instObj 112 dx) :: (dx, lexD w.params a1 a2 a3 a4 a5 1 tn f1 l) :: (l, listOf #[] 0) :: (D, listOf ys.toArray e4) :: (Dw, listOf wv.toArray ew) :: (c2, o2) :: (c6, o6) :: (c7, o7) :: (c8, o8) :: (rst ++ lamG k1 k2 lo1 lo2)) →
    (Dsk :: Dl :: Dm :: Dst :: x :: dx :: l :: D :: Dw :: c2 :: c6 :: c7 :: c8 :: ads (rst ++ lamG k1 k2 lo1 lo2)).Nodup → o6.data = .cell (some (.ref x)) → o7.data = .cell (some (.ref Dst)) → o8.data = .cell (some (.ref Dl)) →
    m' "marks" = some (.ref Dm) → m' "last" = some (.str (strOf (wordOf rl.1)) tl) → m' "count" = some (.int (nR : Nat) tc) → m' "struck" = some (.ref Dsk) → (∀ y : Str, y ≠ "marks" → y ≠ "last" → y ≠ "count" → y ≠ "struck" → m' y = m y) →
    wpAny (model P0 w) ⟨none, d, fs, gd, u⟩ (execs ((lawBody w.params).drop 24) (lawEnv w.params L c1 c2 c3 c4 c5 c6 c7 c8 c9 c10)) Q (fun _ _ => False) (At s h t)
theorem seg5 (hK : PySem.Challenge.rw_pg0241_01 = PySem.Challenge.rw_pg0241_01 ∧ heapK = heapK) {w : World} {d : Nat} {fs : Option (List Env)} {gd : Option (List Code)} {u : Nat} {Q : Flow → Shared → Prop} {s : Shared} {g h : Heap} {t : Nat} {L c1 c2 c3 c4 c5 c6 c7 c8 c9 c10 Dw D : Addr} {o2 o6 o7 o8 : Obj} {m : Str → Option Value} {rst : List (Addr × Obj)} {R : List Row} {nR : Nat} {k1 k2 : Addr} {lo1 lo2 : Obj} {ys wv : List Value} {e4 ew : Nat}
  (B : Bs w g) (r : Rm ⟨none, d, fs, gd, u⟩ 80) (GR : GoodR R nR) (hnR : 6 ≤ nR ∧ nR ≤ 11) (TL : LamTab k1 k2 lo1 lo2)
  (d2 : o2.data = .cell (some (.ref Dw))) (d6 : o6.data = .cell none) (d7 : o7.data = .cell none) (d8 : o8.data = .cell none) (hys : StrsAre ys (R.map fun r => strOf (wordOf r.1))) (hwv : StrsAre wv (R.map fun r => strOf (wordOf r.1)))
  (F : Fr g L h m) (N : News g L h ((D, listOf ys.toArray e4) :: (Dw, listOf wv.toArray ew) :: (c2, o2) :: (c6, o6) :: (c7, o7) :: (c8, o8) :: (rst ++ lamG k1 k2 lo1 lo2)))
  (nd : (D :: Dw :: c2 :: c6 :: c7 :: c8 :: ads (rst ++ lamG k1 k2 lo1 lo2)).Nodup)
  (hm1 : m "told" = some (.ref D))
  (hQ : Post5 w d fs gd u Q s g h t L c1 c2 c3 c4 c5 c6 c7 c8 c9 c10 Dw D o2 o6 o7 o8 m rst R nR k1 k2 lo1 lo2 ys wv e4 ew) :
  wpAny (model P0 w) ⟨none, d, fs, gd, u⟩ (execs ((lawBody w.params).drop 17) (lawEnv w.params L c1 c2 c3 c4 c5 c6 c7 c8 c9 c10)) Q (fun _ _ => False) (At s h t) := by
  revert hK; k_fill; intro hK; clear hK
  obtain ⟨p, loose, mean, mg, mb, T⟩ := B.T
  have X := B.X
  have hys2 : ys.toArray.size = nR := by rw [List.size_toArray, StrsAre.len hys, List.length_map, GR.len]
  have hwv2 : wv.toArray.size = nR := by rw [List.size_toArray, StrsAre.len hwv, List.length_map, GR.len]
  dsimp only [At]
  (rw [show (lawBody w.params).drop 17 = stm w.params 17 :: (lawBody w.params).drop 18 from rfl]; conv in (stm w.params 17) => whnf)
  walk_at "stms"
  with_reducible rename Fr _ _ _ _ => Fx
  with_reducible rename News _ _ _ _ => Nx
  with_reducible rename List.Nodup _ => ndx
  with_reducible rename Addr => De
  refine wpAny_call (law_stream_made ⟨rfl, rfl⟩ (G := []) B Fx.keep (r.less (by omega)) (own_of_news Nx fun p hp => List.mem_append_right ((De, listOf #[] 0) :: (D, listOf ys.toArray e4) :: (Dw, listOf wv.toArray ew) :: (c2, o2) :: (c6, o6) :: (c7, o7) :: (c8, o8) :: rst) hp) TL (nd_sub (news := ((De, listOf #[] 0) :: (D, listOf ys.toArray e4) :: (Dw, listOf wv.toArray ew) :: (c2, o2) :: (c6, o6) :: (c7, o7) :: (c8, o8) :: rst) ++ lamG k1 k2 lo1 lo2) ndx (List.sublist_append_right _ _)) (fun h6 t6 f1 dd f2 cell fo od co ro M D6 => ?_))
  obtain ⟨F6, N6, nd6⟩ := D6.after (pre := (De, listOf #[] 0) :: (D, listOf ys.toArray e4) :: (Dw, listOf wv.toArray ew) :: (c2, o2) :: (c6, o6) :: (c7, o7) :: (c8, o8) :: rst) Fx Nx ndx
  clear Fx Nx D6
  replace N6 : News g L h6 ((f1, fo) :: (dd, od) :: (f2, ro) :: (cell, co) :: (De, listOf #[] 0) :: (D, listOf ys.toArray e4) :: (Dw, listOf wv.toArray ew) :: (c2, o2) :: (c6, o6) :: (c7, o7) :: (c8, o8) :: (rst ++ lamG k1 k2 lo1 lo2)) := N6
  replace nd6 : (f1 :: dd :: f2 :: cell :: De :: D :: Dw :: c2 :: c6 :: c7 :: c8 :: ads (rst ++ lamG k1 k2 lo1 lo2)).Nodup := nd6
  dsimp only
  walk_at "stms"
  refine lex_new ⟨rfl, rfl⟩ B (r.less (by omega)) F6 N6 nd6 (fun h7 t7 x dx l a1 a2 a3 a4 a5 tn F7 N7 nd7 => ?_)
  clear F6 N6 nd6
  dsimp only [At]
  walk_at "stms"
  with_reducible rename (Obj.data _ = _) => d6'
  with_reducible rename Obj => o6'
  (rw [show (lawBody w.params).drop 18 = stm w.params 18 :: (lawBody w.params).drop 19 from rfl]; conv in (stm w.params 18) => whnf)
  walk_at "stms"
  with_reducible rename Addr => Dst
  with_reducible rename (Obj.data _ = _) => d7'
  with_reducible rename Obj => o7'
  (rw [show (lawBody w.params).drop 19 = stm w.params 19 :: (lawBody w.params).drop 20 from rfl]; conv in (stm w.params 19) => whnf)
  walk_at "stms"
  with_reducible rename Addr => Dm
  (rw [show (lawBody w.params).drop 20 = stm w.params 20 :: (lawBody w.params).drop 21 from rfl]; conv in (stm w.params 20) => whnf)
  walk_at "stms"
  with_reducible rename Fr _ _ _ _ => Fy
  with_reducible rename News _ _ _ _ => Ny
  with_reducible rename List.Nodup _ => ndy
  obtain ⟨rl, hrl⟩ : ∃ q, R[nR - 1]? = some q := ⟨_, List.getElem?_eq_getElem (show nR - 1 < R.length by rw [GR.len]; omega)⟩
  obtain ⟨vl, hvl⟩ : ∃ q, ys[ys.length - 1]? = some q := ⟨_, List.getElem?_eq_getElem (show ys.length - 1 < ys.length by have := hys2; rw [List.size_toArray] at this; omega)⟩
  obtain ⟨yl, tyl, hyl, rfl⟩ := strs_at hys hvl
  rw [show ys.length = nR by have := hys2; rwa [List.size_toArray] at this] at hyl
  obtain ⟨rl2, hrl2, rfl⟩ := row_at hyl
  rw [hrl] at hrl2
  cases hrl2
  refine kde_neg (News.isList (a := D) (items := ys.toArray) (n := e4) Ny (by k_mem)) (by decide) (by decide) (PyProof.Rows.seqIndex?_neg_one (by have := hys2; rw [List.size_toArray] at this; omega)) hvl ?_ (by with_unfolding_all rfl)
  walk_at "stms"
  (rw [show (lawBody w.params).drop 21 = stm w.params 21 :: (lawBody w.params).drop 22 from rfl]; conv in (stm w.params 21) => whnf)
  walk_at "stms"
  with_reducible rename Fr _ _ _ _ => Fy
  with_reducible rename News _ _ _ _ => Ny
  with_reducible rename Fr _ _ _ _ => Fy
  with_reducible rename News _ _ _ _ => Ny
  (rw [show (lawBody w.params).drop 22 = stm w.params 22 :: (lawBody w.params).drop 23 from rfl]; conv in (stm w.params 22) => whnf)
  walk_at "stms"
  refine wpAny_Assign_Name ?_
  refine compE (cl := []) (by rfl) (by decide) rfl (by decide) (by decide) ?_
  walk_at "stms"
  with_reducible rename Fr _ _ _ _ => Fz
  with_reducible rename News _ _ _ _ => Nz
  with_reducible rename IsRange _ _ _ _ _ _ _ _ => hrg
  refine iterRange (n := nR) Fz Nz hrg (by omega) (by decide) (by omega) (fun I6 h6 o6i F6 N6 l6 hit6 => ?_)
  have nd6 := nd_cons ndy rfl l6
  clear Fz Nz
  refine compG_range (L := L) (a := 0) (n := nR) rfl rfl B F6 N6 nd6 hit6 (fun i zs G => i ≤ nR ∧ G = ((Dm, listOf #[] 0) :: (Dst, listOf #[] 0) :: (x, instObj 112 dx) :: (dx, lexD w.params a1 a2 a3 a4 a5 1 tn f1 l) :: (l, listOf #[] 0) :: (f1, fo) :: (dd, od) :: (f2, ro) :: (cell, co) :: (De, listOf #[] 0) :: (D, listOf ys.toArray e4) :: (Dw, listOf wv.toArray ew) :: (c2, o2) :: (c6, o6') :: (c7, o7') :: (c8, o8) :: (rst ++ lamG k1 k2 lo1 lo2)) ∧ IntsAre zs ((List.range i).map (Nat.cast : Nat → Int))) ?J0 ?Jl ?jturn ?jfin
  case J0 => exact ⟨Nat.zero_le _, rfl, IntsAre.nil⟩
  case Jl =>
    rintro i zs G ⟨hin, rfl, hi⟩
    have := hi.length
    rw [List.length_map, List.length_range] at this
    omega
  case jturn =>
    rintro g₂ C D6 i6 v6 zs G oi e6 h8 t8 m8 gg₂ B₂ hi6 ⟨tv6, rfl⟩ ⟨_, rfl, hzs⟩ F8 N8 nd8
    clear F6 N6
    refine wpAny_tests_nil ?_
    rw [if_pos rfl]
    walk_at "stms"
    show TurnEnd _ _ _ _ _ _ _ _ _ _
    refine ⟨_, _, _, _, rfl, F8, N8, nd8, hi6, rfl, ?_⟩
    rw [List.range_succ, List.map_append, Int.zero_add]
    exact ints_app hzs (IntsAre.cons _ _ IntsAre.nil)
  case jfin =>
    rintro D6 zs G e6 h8 t8 ⟨_, rfl, hzs⟩ F8 N8 nd8
    clear F6 N6
    dsimp only [At]
    walk_at "stms"
    with_reducible rename (Obj.data _ = _) => d8'
    with_reducible rename Obj => o8'
    (rw [show (lawBody w.params).drop 23 = stm w.params 23 :: (lawBody w.params).drop 24 from rfl]; conv in (stm w.params 23) => whnf)
    walk_at "stms"
    with_reducible rename Fr _ _ _ _ => Fy
    with_reducible rename News _ _ _ _ => Ny
    with_reducible rename List.Nodup _ => ndy
    with_reducible rename Addr => Dsk
    replace ndy : (Dsk :: D6 :: Dm :: Dst :: x :: dx :: l :: f1 :: dd :: f2 :: cell :: De :: D :: Dw :: c2 :: c6 :: c7 :: c8 :: ads (rst ++ lamG k1 k2 lo1 lo2)).Nodup := ndy
    refine' hQ _ _ _ x dx l Dst Dm D6 Dsk f1 a1 a2 a3 a4 a5 tn o6' o7' o8' zs e6 _ _ rl hrl hzs Fy (news_sub Ny ?b1) (List.Nodup.sublist ?b2 ndy) d6' d7' d8' ?b3 ?b4 ?b5 ?b6 ?b7
    case b1 => walk_at "sub"
    case b2 => walk_at "sub"
    case b3 => rfl
    case b4 => rfl
    case b5 => rfl
    case b6 => rfl
    case b7 =>
      intro y h1 h2 h3 h4
      exact (if_neg h4).trans ((if_neg h3).trans ((if_neg h2).trans (if_neg h1)))
end
section
example : True := by w_top off; trivial
/-! the rounds, plain -/
def pickK (s : Nat) (l : List Nat) (j : Nat) : List Nat := ((List.range j).filter fun i => (i + 1) % s != 0).filterMap (l[·]?)
def pickS (s : Nat) (l : List Nat) (j : Nat) : List Nat := ((List.range j).filter fun i => (i + 1) % s == 0).filterMap (l[·]?)
def placesS (s : Nat) (j : Nat) : List Nat := ((List.range j).filter fun i => (i + 1) % s == 0).map (· + 1)
theorem pickK_snoc {s : Nat} {l : List Nat} {j a : Nat} (h : l[j]? = some a) : pickK s l (j + 1) = pickK s l j ++ (if (j + 1) % s = 0 then [] else [a]) := by
  unfold pickK
  rw [List.range_succ, List.filter_append, List.filterMap_append]
  congr 1
  by_cases e : (j + 1) % s = 0
  · simp [e]
  · simp [e, h]
theorem pickS_snoc {s : Nat} {l : List Nat} {j a : Nat} (h : l[j]? = some a) : pickS s l (j + 1) = pickS s l j ++ (if (j + 1) % s = 0 then [a] else []) := by
  unfold pickS
  rw [List.range_succ, List.filter_append, List.filterMap_append]
  congr 1
  by_cases e : (j + 1) % s = 0
  · simp [e, h]
  · simp [e]
theorem places_snoc {s j : Nat} : placesS s (j + 1) = placesS s j ++ (if (j + 1) % s = 0 then [j + 1] else []) := by
  unfold placesS
  rw [List.range_succ, List.filter_append, List.map_append]
  congr 1
  by_cases e : (j + 1) % s = 0
  · simp [e]
  · simp [e]
/-- the state of the rounds: who is left, who is struck, the marks, the round's number -/
abbrev RSt := List Nat × List Nat × List (Nat × Nat) × Nat
def S0 (n : Nat) : RSt := (List.range n, [], [], 0)
def S1 (q : RSt) (s : Nat) : RSt := (pickK s q.1 q.1.length, q.2.1 ++ pickS s q.1 q.1.length, q.2.2.1 ++ (placesS s q.1.length).map (fun p => (q.2.2.2, p)), q.2.2.2 + 1)
def runS (n : Nat) (st : List Nat) : RSt := st.foldl S1 (S0 n)
theorem runS_snoc (n : Nat) (st : List Nat) (s : Nat) : runS n (st ++ [s]) = S1 (runS n st) s := by unfold runS; rw [List.foldl_append]; rfl
def steps3 : List (List Nat) := [[]] ++ ([2, 3, 4].map fun a => [a]) ++ ([2, 3, 4].flatMap fun a => [2, 3, 4].map fun b => [a, b]) ++ ([2, 3, 4].flatMap fun a => [2, 3, 4].flatMap fun b => [2, 3, 4].map fun c => [a, b, c])
theorem mem_steps {st : List Nat} (hl : st.length ≤ 3) (hs : ∀ s ∈ st, 2 ≤ s ∧ s ≤ 4) : st ∈ steps3 := by
  have key : ∀ a, 2 ≤ a ∧ a ≤ 4 → a = 2 ∨ a = 3 ∨ a = 4 := fun a h => by omega
  match st, hl, hs with
  | [], _, _ => decide
  | [a], _, hs =>
    rcases key a (hs a (.head _)) with rfl | rfl | rfl <;> decide
  | [a, b], _, hs =>
    rcases key a (hs a (.head _)) with rfl | rfl | rfl <;> rcases key b (hs b (.tail _ (.head _))) with rfl | rfl | rfl <;> decide
  | [a, b, c], _, hs =>
    rcases key a (hs a (.head _)) with rfl | rfl | rfl <;> rcases key b (hs b (.tail _ (.head _))) with rfl | rfl | rfl <;> rcases key c (hs c (.tail _ (.tail _ (.head _)))) with rfl | rfl | rfl <;> decide
/-- what holds of each state that can come -/
def okS (n : Nat) (st : List Nat) : Bool :=
  let q := runS n st
  !q.1.isEmpty && q.1.all (· < n) && decide (q.1.length ≤ 11) && q.2.1.all (· < n) && decide (q.2.1.length ≤ 11) && decide (q.2.2.1.length = q.2.1.length) && q.2.2.2 == st.length && q.2.2.1.all (fun p => p.1 < st.length && p.2 ≤ 11 && decide (1 ≤ p.2)) && decide (q.1.Pairwise (· < ·))
theorem okS_all : ∀ n ∈ List.range' 6 6, ∀ st ∈ steps3, okS n st = true := by decide +kernel
structure OkS (n : Nat) (st : List Nat) : Prop where
  ne : (runS n st).1 ≠ []
  lt : ∀ k ∈ (runS n st).1, k < n
  len : (runS n st).1.length ≤ 11
  slt : ∀ k ∈ (runS n st).2.1, k < n
  slen : (runS n st).2.1.length ≤ 11
  mlen : (runS n st).2.2.1.length = (runS n st).2.1.length
  tau : (runS n st).2.2.2 = st.length
  mks : ∀ p ∈ (runS n st).2.2.1, p.1 < st.length ∧ p.2 ≤ 11 ∧ 1 ≤ p.2
  inc : (runS n st).1.Pairwise (· < ·)
theorem okS_of {n : Nat} {st : List Nat} (hn : 6 ≤ n ∧ n ≤ 11) (hl : st.length ≤ 3) (hs : ∀ s ∈ st, 2 ≤ s ∧ s ≤ 4) : OkS n st := by
  have h := okS_all n (by rw [List.mem_range'_1]; omega) st (mem_steps hl hs)
  unfold okS at h
  simp only [Bool.and_eq_true, Bool.not_eq_true', List.all_eq_true, decide_eq_true_eq, beq_iff_eq] at h
  obtain ⟨⟨⟨⟨⟨⟨⟨⟨h1, h2⟩, h3⟩, h4⟩, h5⟩, h6⟩, h7⟩, h8⟩, h9⟩ := h
  exact ⟨fun e => (by rw [e] at h1; cases h1), h2, h3, h4, h5, h6, h7, fun p hp => ⟨(h8 p hp).1.1, (h8 p hp).1.2, (h8 p hp).2⟩, h9⟩
/-- the slice [s - 1::s] -/
theorem slice_idx : ∀ s : Fin 3, ∀ n : Fin 12, sliceRange (sliceBounds (some ((s.val + 1 : Nat) : Int)) none (some ((s.val + 2 : Nat) : Int)) n.val).1 (sliceBounds (some ((s.val + 1 : Nat) : Int)) none (some ((s.val + 2 : Nat) : Int)) n.val).2.1 (sliceBounds (some ((s.val + 1 : Nat) : Int)) none (some ((s.val + 2 : Nat) : Int)) n.val).2.2 = (List.range n.val).filter fun i => (i + 1) % (s.val + 2) == 0 := by decide +kernel
theorem ints_pick {zs : List Value} {l : List Nat} (h : IntsAre zs (l.map (Nat.cast : Nat → Int))) (is : List Nat) : IntsAre (is.filterMap (zs[·]?)) ((is.filterMap (l[·]?)).map (Nat.cast : Nat → Int)) := by
  induction is with
  | nil => exact IntsAre.nil
  | cons i is ih =>
    rw [List.filterMap_cons, List.filterMap_cons]
    cases e : zs[i]? with
    | none =>
      have : l[i]? = none := by
        rw [List.getElem?_eq_none_iff] at e ⊢
        have := h.length
        rw [List.length_map] at this
        omega
      rw [this]; exact ih
    | some v =>
      obtain ⟨d, t, hd, rfl⟩ := ints_nat_at h e
      rw [hd]
      exact IntsAre.cons _ _ ih
theorem slice_strike {zs : List Value} {l : List Nat} {s : Nat} (hs : 2 ≤ s ∧ s ≤ 4) (hl : l.length ≤ 11) (h : IntsAre zs (l.map (Nat.cast : Nat → Int))) : IntsAre (slicePick zs.toArray (some ((s - 1 : Nat) : Int)) none (some (s : Int))).toList ((pickS s l l.length).map (Nat.cast : Nat → Int)) := by
  obtain ⟨k, rfl⟩ : ∃ k, s = k + 2 := ⟨s - 2, by omega⟩
  have hz : zs.toArray.size = l.length := by rw [List.size_toArray, h.length, List.length_map]
  have e := slice_idx ⟨k, by omega⟩ ⟨l.length, by omega⟩
  have e2 : k + 2 - 1 = k + 1 := by omega
  unfold slicePick pickS
  rw [hz, e2]
  rw [show ((k + 2 : Nat) : Int) = (((⟨k, by omega⟩ : Fin 3).val + 2 : Nat) : Int) from rfl, e]
  show IntsAre (List.filterMap (fun x => zs.toArray[x]?) _) _
  have e3 : (fun x : Nat => zs.toArray[x]?) = fun x => zs[x]? := funext fun x => by simp
  rw [e3]
  exact ints_pick h _
/-- the word at a place of the text -/
def Wd (R : List Row) (k : Nat) : Str := strOf (wordOf ((R[k]?).getD (0, 0, 0)).1)
theorem Wd_at {R : List Row} {k : Nat} {r : Row} (h : R[k]? = some r) : Wd R k = strOf (wordOf r.1) := by unfold Wd; rw [h]; rfl
/-- the marks: a list of lists of two ints each -/
inductive MkA : List Value → List (Addr × Obj) → List (Nat × Nat) → Prop
  | nil : MkA [] [] []
  | snoc {vs : List Value} {M : List (Addr × Obj)} {mk : List (Nat × Nat)} (a : Addr) (p q : Nat) (t1 t2 : Tok) (e : Nat) : MkA vs M mk → MkA (vs ++ [.ref a]) ((a, listOf #[.int (p : Nat) t1, .int (q : Nat) t2] e) :: M) (mk ++ [(p, q)])
theorem MkA.len {vs : List Value} {M : List (Addr × Obj)} {mk : List (Nat × Nat)} (h : MkA vs M mk) : vs.length = mk.length := by
  induction h with
  | nil => rfl
  | snoc a p q t1 t2 e _ ih => rw [List.length_append, List.length_append, ih]; rfl
theorem MkA.at {vs : List Value} {M : List (Addr × Obj)} {mk : List (Nat × Nat)} (h : MkA vs M mk) : ∀ {j : Nat} {v : Value}, vs[j]? = some v → ∃ (a : Addr) (p q : Nat) (t1 t2 : Tok) (e : Nat), v = .ref a ∧ (a, listOf #[.int (p : Nat) t1, .int (q : Nat) t2] e) ∈ M ∧ mk[j]? = some (p, q) := by
  induction h with
  | nil => intro j v hj; simp at hj
  | @snoc vs M mk a p q t1 t2 e r ih =>
    intro j v hj
    rcases Nat.lt_or_ge j vs.length with hl | hl
    · rw [List.getElem?_append_left hl] at hj
      obtain ⟨a', p', q', t1', t2', e', h1, h2, h3⟩ := ih hj
      exact ⟨a', p', q', t1', t2', e', h1, .tail _ h2, by rw [List.getElem?_append_left (by rw [← r.len]; exact hl)]; exact h3⟩
    · rw [List.getElem?_append_right hl] at hj
      have e0 : j - vs.length = 0 := by
        have := (List.getElem?_eq_some_iff.mp hj).1
        simp at this; omega
      rw [e0] at hj
      refine ⟨a, p, q, t1, t2, e, (Option.some.inj hj).symm, .head _, ?_⟩
      have hl2 : mk.length ≤ j := by rw [← r.len]; exact hl
      rw [List.getElem?_append_right hl2, ← r.len, e0]; rfl
theorem news_in {g h : Heap} {L : Addr} {a : Addr × Obj} {pre M : List (Addr × Obj)} (N : News g L h (a :: (pre ++ M))) : News g L h (pre ++ (a :: M)) := news_perm N List.perm_middle.symm
theorem nd_in {a : Addr × Obj} {pre M : List (Addr × Obj)} (nd : ((a :: (pre ++ M)).map (·.1)).Nodup) : ((pre ++ (a :: M)).map (·.1)).Nodup := ads_perm nd List.perm_middle.symm
theorem strs_cons {v : Value} {vs : List Value} {y : Str} {ys : List Str} (h : StrsAre (v :: vs) (y :: ys)) : ∃ t, v = .str y t ∧ StrsAre vs ys := by
  cases h with
  | cons y t r => exact ⟨t, rfl, r⟩
theorem strs_cons' {vs : List Value} {y : Str} {ys : List Str} (h : StrsAre vs (y :: ys)) : ∃ (t : Tok) (us : List Value), vs = .str y t :: us ∧ StrsAre us ys := by
  cases h with
  | cons y t r => exact ⟨t, _, rfl, r⟩
theorem last_snoc {l : List Nat} {a e : Nat} : ((l ++ [a]).getLast?).getD e = a := by simp
theorem news_mid {g h : Heap} {L : Addr} {pre a b c : List (Addr × Obj)} (N : News g L h (pre ++ (a ++ (b ++ c)))) : News g L h (pre ++ (b ++ (a ++ c))) := fun p hp => N p (by
  simp only [List.mem_append] at hp ⊢
  rcases hp with hp | hp | hp | hp
  · exact .inl hp
  · exact .inr (.inr (.inl hp))
  · exact .inr (.inl hp)
  · exact .inr (.inr (.inr hp)))
theorem nd_mid {pre a b c : List (Addr × Obj)} (nd : ((pre ++ (a ++ (b ++ c))).map (·.1)).Nodup) : ((pre ++ (b ++ (a ++ c))).map (·.1)).Nodup := by
  refine ads_perm nd (List.Perm.append_left pre ?_)
  rw [← List.append_assoc, ← List.append_assoc]
  exact List.Perm.append_right c List.perm_append_comm
theorem last_at {l : List Nat} (h : l ≠ []) (e : Nat) : l[l.length - 1]? = some ((l.getLast?).getD e) := by
  rw [List.getLast?_eq_getElem?]
  have : l.length - 1 < l.length := by have := List.length_pos_iff.mpr h; omega
  rw [List.getElem?_eq_getElem this]; rfl
end
section
example : True := by w_top off; trivial
def forBody : Stmt → List Stmt | .For _ _ b _ _ => b | _ => []
noncomputable def rbody (p : Params) : List Stmt := forBody (stm p 24)
noncomputable def rb (p : Params) (k : Nat) : Stmt := ((rbody p)[k]?).getD (.Pass default)
example (p : Params) : (rbody p).length = 8 := by rfl
def Postr1 (w : World) (d : Nat) (fs : Option (List Env)) (gd : Option (List Code)) (u : Nat) (Q : Flow → Shared → Prop) (s : Shared) (g h : Heap) (t : Nat) (L c1 c2 c3 c4 c5 c6 c7 c8 c9 c10 Dl Dv Dn : Addr) (oN o4 o8 o9 : Obj) (m : Str → Option Value) (rst G : List (Addr × Obj)) (R : List Row) (nR : Nat) (kvs : List (Str × Value)) (zs vv : List Value) (el ev : Nat) (lf : List Nat) (k : Nat) (rl : Row) (tl tc : Tok) (v9 : Option Value) : Prop :=
  ∀ (h : Heap) (t : Nat) (m' : Str → Option Value) (o9 : Obj) (G : List (Addr × Obj)) (ts t0 : Tok), Fr g L h m' →
    News g L h ((Dl, listOf zs.toArray el) :: (Dv, listOf vv.toArray ev) :: (Dn, oN) :: (c4, o4) :: (c8, o8) :: (c9, o9) :: (rst ++ G)) → (Dl :: Dv :: Dn :: c4 :: c8 :: c9 :: ads (rst ++ G)).Nodup → Tabs G → o9.data = .cell (some (.int ((2 + (rl.1 + lf.length) % 3 : Nat) : Int) ts)) →
    m' "stay" = some (.int 0 t0) → (∀ y : Str, y ≠ "stay" → m' y = m y) →
    wpAny (model P0 w) ⟨none, d, fs, gd, u⟩ (execs ((rbody w.params).drop 3) (lawEnv w.params L c1 c2 c3 c4 c5 c6 c7 c8 c9 c10)) Q (fun _ _ => False) (At s h t)
theorem segr1 (hK : PySem.Challenge.rw_pg0241_01 = PySem.Challenge.rw_pg0241_01 ∧ heapK = heapK) {w : World} {d : Nat} {fs : Option (List Env)} {gd : Option (List Code)} {u : Nat} {Q : Flow → Shared → Prop} {s : Shared} {g h : Heap} {t : Nat} {L c1 c2 c3 c4 c5 c6 c7 c8 c9 c10 Dl Dv Dn : Addr} {oN o4 o8 o9 : Obj} {m : Str → Option Value} {rst G : List (Addr × Obj)} {R : List Row} {nR : Nat} {kvs : List (Str × Value)} {zs vv : List Value} {el ev : Nat} {lf : List Nat} {k : Nat} {rl : Row} {tl tc : Tok} {v9 : Option Value}
  (B : Bs w g) (r : Rm ⟨none, d, fs, gd, u⟩ 80) (GR : GoodR R nR) (hnR : 6 ≤ nR ∧ nR ≤ 11) (TG : Tabs G) (lo : (Dn == sysModules) = false) (hs : Obj.IsDictOf (PySem.strKind P0 w) oN kvs) (hf : PyProof.V.FlatPairs PyData.str kvs (kdpD (numT R)))
  (hzs : IntsAre zs (lf.map (Nat.cast : Nat → Int))) (hvv : IntsAre vv (R.map fun r => (r.1 : Int))) (hlf : lf.length ≤ 11) (hk : lf[lf.length - 1]? = some k) (hne : 0 < lf.length) (hrl : R[k]? = some rl)
  (d4 : o4.data = .cell (some (.ref Dn))) (d8 : o8.data = .cell (some (.ref Dl))) (d9 : o9.data = .cell v9)
  (F : Fr g L h m) (N : News g L h ((Dl, listOf zs.toArray el) :: (Dv, listOf vv.toArray ev) :: (Dn, oN) :: (c4, o4) :: (c8, o8) :: (c9, o9) :: (rst ++ G)))
  (nd : (Dl :: Dv :: Dn :: c4 :: c8 :: c9 :: ads (rst ++ G)).Nodup)
  (hm1 : m "last" = some (.str (strOf (wordOf rl.1)) tl)) (hm2 : m "count" = some (.int (lf.length : Nat) tc)) (hm3 : m "values" = some (.ref Dv))
  (hQ : Postr1 w d fs gd u Q s g h t L c1 c2 c3 c4 c5 c6 c7 c8 c9 c10 Dl Dv Dn oN o4 o8 o9 m rst G R nR kvs zs vv el ev lf k rl tl tc v9) :
  wpAny (model P0 w) ⟨none, d, fs, gd, u⟩ (execs ((rbody w.params).drop 0) (lawEnv w.params L c1 c2 c3 c4 c5 c6 c7 c8 c9 c10)) Q (fun _ _ => False) (At s h t) := by
  revert hK; k_fill; intro hK; clear hK
  obtain ⟨p, loose, mean, mg, mb, T⟩ := B.T
  have X := B.X
  have hzl : zs.length = lf.length := by rw [hzs.length, List.length_map]
  have hrm := List.mem_of_getElem? hrl
  have hrb : rl.1 < 16 * nR := (GR.le rl hrm).1
  dsimp only [At]
  (rw [show (rbody w.params).drop 0 = rb w.params 0 :: (rbody w.params).drop 1 from rfl]; conv in (rb w.params 0) => whnf)
  walk_at "stms"
  refine kdp_item (c := numT R) (PyProof.Rows.TabAt.ofNews N (.tail _ (.tail _ (.head _))) lo hs hf) (num_has hrm) (fun tk8 => ?_)
  rw [num_look hrm]
  dsimp only
  walk_at "stms"
  refine wpAny_call (int_divmod_ok ⟨rfl, rfl⟩ B F.keep (r.less (by omega)) (own_of_news N fun p hp => List.mem_append_right ((Dl, listOf zs.toArray el) :: (Dv, listOf vv.toArray ev) :: (Dn, oN) :: (c4, o4) :: (c8, o8) :: (c9, o9) :: rst) hp) TG (nd_sub (news := ((Dl, listOf zs.toArray el) :: (Dv, listOf vv.toArray ev) :: (Dn, oN) :: (c4, o4) :: (c8, o8) :: (c9, o9) :: rst) ++ G) nd (List.sublist_append_right _ _)) (by omega) (by omega) (by omega) (by omega) (by omega) (fun h5 t5 lt tq tr G5 D5 TG5 => ?_))
  obtain ⟨F6, N6, nd6⟩ := D5.after (pre := (Dl, listOf zs.toArray el) :: (Dv, listOf vv.toArray ev) :: (Dn, oN) :: (c4, o4) :: (c8, o8) :: (c9, o9) :: rst) F N nd
  replace N6 : News g L h5 ((lt, tupO [.int (((rl.1 : Int) + (lf.length : Nat)).fdiv 3) tq, .int (((rl.1 : Int) + (lf.length : Nat)).fmod 3) tr]) :: (Dl, listOf zs.toArray el) :: (Dv, listOf vv.toArray ev) :: (Dn, oN) :: (c4, o4) :: (c8, o8) :: (c9, o9) :: (rst ++ G5)) := N6
  replace nd6 : (lt :: Dl :: Dv :: Dn :: c4 :: c8 :: c9 :: ads (rst ++ G5)).Nodup := nd6
  have hfm : ((rl.1 : Int) + (lf.length : Nat)).fmod 3 = (((rl.1 + lf.length) % 3 : Nat) : Int) := by
    rw [Int.fmod_eq_emod_of_nonneg _ (by decide)]; rfl
  clear F N nd
  dsimp only
  walk_at "stms"
  with_reducible rename Fr _ _ _ _ => Fx
  with_reducible rename News _ _ _ _ => Nx
  with_reducible rename (Obj.data _ = _) => d9'
  with_reducible rename Obj => o9'
  replace d9' : ∃ ts, o9'.data = .cell (some (.int (2 + ((rl.1 : Int) + (lf.length : Nat)).fmod 3) ts)) := ⟨_, d9'⟩
  obtain ⟨ts, d9'⟩ := d9'
  rw [hfm, show (2 : Int) + (((rl.1 + lf.length) % 3 : Nat) : Int) = ((2 + (rl.1 + lf.length) % 3 : Nat) : Int) by omega] at d9'
  obtain ⟨vk, hvk⟩ : ∃ q, zs[zs.length - 1]? = some q := ⟨_, List.getElem?_eq_getElem (show zs.length - 1 < zs.length by omega)⟩
  obtain ⟨k2, tk2, hk2, rfl⟩ := ints_nat_at hzs hvk
  rw [hzl, hk] at hk2
  cases hk2
  have hvl : vv.length = nR := by rw [hvv.length, List.length_map, GR.len]
  have hkn : k < nR := by have := (List.getElem?_eq_some_iff.mp hrl).1; rwa [GR.len] at this
  obtain ⟨ve, hve⟩ : ∃ q, vv[k]? = some q := ⟨_, List.getElem?_eq_getElem (show k < vv.length by omega)⟩
  obtain ⟨z3, tz3, hz3, rfl⟩ := ints_at hvv hve
  rw [List.getElem?_map, hrl] at hz3
  cases hz3
  have hidx : (List.map (Nat.cast : Nat → Int) lf).getD (-1 + ((List.map (Nat.cast : Nat → Int) lf).length : Int)).toNat 0 = (k : Int) := by
    rw [List.length_map, show (-1 + (lf.length : Int)).toNat = lf.length - 1 by omega, List.getD_eq_getElem?_getD, List.getElem?_map, hk]
    rfl
  have hcmp : ((2 + (rl.1 + lf.length) % 3 : Nat) : Int) = 2 + ((List.map (fun r => (r.1 : Int)) R).getD ((List.map (Nat.cast : Nat → Int) lf).getD (-1 + ((List.map (Nat.cast : Nat → Int) lf).length : Int)).toNat 0).toNat 0 + ((List.map (Nat.cast : Nat → Int) lf).length : Int)).fmod 3 := by
    rw [hidx, List.length_map, List.getD_eq_getElem?_getD, List.getElem?_map, Int.toNat_natCast, hrl]
    show _ = 2 + ((rl.1 : Int) + (lf.length : Nat)).fmod 3
    rw [hfm]; omega
  (rw [show (rbody w.params).drop 1 = rb w.params 1 :: (rbody w.params).drop 2 from rfl]; conv in (rb w.params 1) => whnf)
  walk_at "stms"
  (rw [show (rbody w.params).drop 2 = rb w.params 2 :: (rbody w.params).drop 3 from rfl]; conv in (rb w.params 2) => whnf)
  walk_at "stms"
  with_reducible rename Fr _ _ _ _ => Fy
  with_reducible rename News _ _ _ _ => Ny
  refine' hQ _ _ _ o9' G5 ts _ Fy (fun p hp => Ny p (.tail _ hp)) (ndt nd6) TG5 d9' ?b1 ?b2
  case b1 => rfl
  case b2 =>
    intro y h1
    exact if_neg h1
end
section
example : True := by w_top off; trivial
def Postr2 (w : World) (d : Nat) (fs : Option (List Env)) (gd : Option (List Code)) (u : Nat) (Q : Flow → Shared → Prop) (s : Shared) (g h : Heap) (t : Nat) (L c1 c2 c3 c4 c5 c6 c7 c8 c9 c10 Dm Dn x2 dx2 l2 f2 x dx l f1 : Addr) (a1 a2 a3 a4 a5 tn b1 b2 b3 b4 b5 un tl tc ts tt t0 : Tok) (n n2 : Int) (oN o3 o4 o6 o9 : Obj) (m : Str → Option Value) (rst M : List (Addr × Obj)) (R : List Row) (nR : Nat) (kvs : List (Str × Value)) (mvs tb pb : List Value) (em et ep : Nat) (lf sk : List Nat) (mk : List (Nat × Nat)) (k0 sN tau : Nat) : Prop :=
  ∀ (h : Heap) (t : Nat) (m' : Str → Option Value) (mvs tb pb : List Value) (em et ep : Nat) (M : List (Addr × Obj)) (tl t0 : Tok), Fr g L h m' → News g L h ((Dm, listOf (List.toArray mvs) em) :: (x2, instObj 112 dx2) :: (dx2, lexD w.params b1 b2 b3 b4 b5 n2 un f2 l2) :: (l2, listOf (List.toArray tb) et) :: (Dn, oN) :: (x, instObj 112 dx) :: (dx, lexD w.params a1 a2 a3 a4 a5 n tn f1 l) :: (l, listOf (List.toArray pb) ep) :: (c3, o3) :: (c4, o4) :: (c6, o6) :: (c9, o9) :: (M ++ rst)) → (Dm :: x2 :: dx2 :: l2 :: Dn :: x :: dx :: l :: c3 :: c4 :: c6 :: c9 :: ads (M ++ rst)).Nodup →
    StrsAre pb ((pickK sN lf lf.length).map (Wd R)) → StrsAre tb ((sk ++ pickS sN lf lf.length).map (Wd R)) → MkA mvs M (mk ++ (placesS sN lf.length).map fun p => (tau, p)) →
    m' "last" = some (.str (Wd R (((pickK sN lf lf.length).getLast?).getD k0)) tl) → m' "stay" = some (.int ((pickK sN lf lf.length).length : Nat) t0) → (∀ y : Str, y ≠ "place" → y ≠ "word" → y ≠ "last" → y ≠ "stay" → m' y = m y) →
    wpAny (model P0 w) ⟨none, d, fs, gd, u⟩ (execs ((rbody w.params).drop 4) (lawEnv w.params L c1 c2 c3 c4 c5 c6 c7 c8 c9 c10)) Q (fun _ _ => False) (At s h t)
abbrev JL8a (w : World) (g : Heap) (L : Addr) (c3 : Addr) (c4 : Addr) (c6 : Addr) (c9 : Addr) (Dm : Addr) (Dn : Addr) (x2 : Addr) (dx2 : Addr) (l2 : Addr) (f2 : Addr) (x : Addr) (dx : Addr) (l : Addr) (f1 : Addr) (a1 : Tok) (a2 : Tok) (a3 : Tok) (a4 : Tok) (a5 : Tok) (tn : Tok) (b1 : Tok) (b2 : Tok) (b3 : Tok) (b4 : Tok) (b5 : Tok) (un : Tok) (n : Int) (n2 : Int) (oN : Obj) (o3 : Obj) (o4 : Obj) (o6 : Obj) (o9 : Obj) (m : Str → Option Value) (rst : List (Addr × Obj)) (R : List Row) (lf : List Nat) (sk : List Nat) (mk : List (Nat × Nat)) (k0 : Nat) (sN : Nat) (tau : Nat) (I : Addr) : Nat → Heap → Prop := fun (j : Nat) (h : Heap) => Ex11 fun (m' : Str → Option Value) (o : Obj) (mvs tb pb : List Value) (em et ep : Nat) (M : List (Addr × Obj)) (tl t0 : Tok) => And11 (Fr g L h m') (News g L h ((I, o) :: (Dm, listOf (List.toArray mvs) em) :: (x2, instObj 112 dx2) :: (dx2, lexD w.params b1 b2 b3 b4 b5 n2 un f2 l2) :: (l2, listOf (List.toArray tb) et) :: (Dn, oN) :: (x, instObj 112 dx) :: (dx, lexD w.params a1 a2 a3 a4 a5 n tn f1 l) :: (l, listOf (List.toArray pb) ep) :: (c3, o3) :: (c4, o4) :: (c6, o6) :: (c9, o9) :: (M ++ rst))) ((I :: Dm :: x2 :: dx2 :: l2 :: Dn :: x :: dx :: l :: c3 :: c4 :: c6 :: c9 :: ads (M ++ rst)).Nodup) (IsRangeIter h I (1 + (j : Nat) * 1) ((lf.length : Int) - (j : Nat)) 1) (j ≤ lf.length) (StrsAre pb ((lf.drop j ++ pickK sN lf j).map (Wd R))) (StrsAre tb ((sk ++ pickS sN lf j).map (Wd R))) (MkA mvs M (mk ++ (placesS sN j).map fun p => (tau, p))) (m' "last" = some (.str (Wd R (((pickK sN lf j).getLast?).getD k0)) tl)) (m' "stay" = some (.int ((pickK sN lf j).length : Nat) t0)) (∀ y : Str, y ≠ "place" → y ≠ "word" → y ≠ "last" → y ≠ "stay" → m' y = m y)
theorem segr2 (hK : PySem.Challenge.rw_pg0241_01 = PySem.Challenge.rw_pg0241_01 ∧ heapK = heapK) {w : World} {d : Nat} {fs : Option (List Env)} {gd : Option (List Code)} {u : Nat} {Q : Flow → Shared → Prop} {s : Shared} {g h : Heap} {t : Nat} {L c1 c2 c3 c4 c5 c6 c7 c8 c9 c10 Dm Dn x2 dx2 l2 f2 x dx l f1 : Addr} {a1 a2 a3 a4 a5 tn b1 b2 b3 b4 b5 un tl tc ts tt t0 : Tok} {n n2 : Int} {oN o3 o4 o6 o9 : Obj} {m : Str → Option Value} {rst M : List (Addr × Obj)} {R : List Row} {nR : Nat} {kvs : List (Str × Value)} {mvs tb pb : List Value} {em et ep : Nat} {lf sk : List Nat} {mk : List (Nat × Nat)} {k0 sN tau : Nat}
  (B : Bs w g) (r : Rm ⟨none, d, fs, gd, u⟩ 80) (GR : GoodR R nR) (hnR : 6 ≤ nR ∧ nR ≤ 11) (lo : (Dn == sysModules) = false) (hs : Obj.IsDictOf (PySem.strKind P0 w) oN kvs) (hf : PyProof.V.FlatPairs PyData.str kvs (kdpD (numT R)))
  (hlf : lf.length ≤ 11) (hlt : ∀ k ∈ lf, k < nR) (hsk : sk.length ≤ 11) (hmk : mk.length ≤ 33) (hsN : 2 ≤ sN ∧ sN ≤ 4) (htau : tau < 3)
  (hpb : StrsAre pb (lf.map (Wd R))) (htb : StrsAre tb (sk.map (Wd R))) (hM : MkA mvs M mk)
  (d3 : o3.data = .cell (some (.ref x))) (d4 : o4.data = .cell (some (.ref Dn))) (d6 : o6.data = .cell (some (.ref x2))) (d9 : o9.data = .cell (some (.int (sN : Nat) ts)))
  (F : Fr g L h m) (N : News g L h ((Dm, listOf mvs.toArray em) :: (x2, instObj 112 dx2) :: (dx2, lexD w.params b1 b2 b3 b4 b5 n2 un f2 l2) :: (l2, listOf tb.toArray et) :: (Dn, oN) :: (x, instObj 112 dx) :: (dx, lexD w.params a1 a2 a3 a4 a5 n tn f1 l) :: (l, listOf pb.toArray ep) :: (c3, o3) :: (c4, o4) :: (c6, o6) :: (c9, o9) :: (M ++ rst)))
  (nd : (Dm :: x2 :: dx2 :: l2 :: Dn :: x :: dx :: l :: c3 :: c4 :: c6 :: c9 :: ads (M ++ rst)).Nodup)
  (hm1 : m "last" = some (.str (Wd R k0) tl)) (hm2 : m "count" = some (.int (lf.length : Nat) tc)) (hm3 : m "marks" = some (.ref Dm)) (hm4 : m "turn" = some (.int (tau : Nat) tt)) (hm5 : m "stay" = some (.int 0 t0))
  (hQ : Postr2 w d fs gd u Q s g h t L c1 c2 c3 c4 c5 c6 c7 c8 c9 c10 Dm Dn x2 dx2 l2 f2 x dx l f1 a1 a2 a3 a4 a5 tn b1 b2 b3 b4 b5 un tl tc ts tt t0 n n2 oN o3 o4 o6 o9 m rst M R nR kvs mvs tb pb em et ep lf sk mk k0 sN tau) :
  wpAny (model P0 w) ⟨none, d, fs, gd, u⟩ (execs ((rbody w.params).drop 3) (lawEnv w.params L c1 c2 c3 c4 c5 c6 c7 c8 c9 c10)) Q (fun _ _ => False) (At s h t) := by
  revert hK; k_fill; intro hK; clear hK
  obtain ⟨p, loose, mean, mg, mb, T⟩ := B.T
  have X := B.X
  dsimp only [At]
  (rw [show (rbody w.params).drop 3 = rb w.params 3 :: (rbody w.params).drop 4 from rfl]; conv in (rb w.params 3) => whnf)
  walk_at "stms"
  refine wpAny_For ?_
  walk_at "stms"
  with_reducible rename Fr _ _ _ _ => Fx
  with_reducible rename News _ _ _ _ => Nx
  with_reducible rename IsRange _ _ _ _ _ _ _ _ => hrg
  refine iterRange (n := lf.length) Fx Nx hrg (by omega) (by decide) (by omega) (fun I h2 o0 F2 N2 l2' hit0 => ?_)
  have nd2 : (I :: Dm :: x2 :: dx2 :: l2 :: Dn :: x :: dx :: l :: c3 :: c4 :: c6 :: c9 :: ads (M ++ rst)).Nodup := nd_cons nd rfl l2'
  clear Fx Nx
  refine forW (Walks.range rfl I 1 1 lf.length)
    (JL8a w g L c3 c4 c6 c9 Dm Dn x2 dx2 l2 f2 x dx l f1 a1 a2 a3 a4 a5 tn b1 b2 b3 b4 b5 un n n2 oN o3 o4 o6 o9 m rst R lf sk mk k0 sN tau I)
    ?hJ ?h0 ?turn ?fin ?ht
  case ht => intro _; rfl
  case hJ =>
    rintro j h ⟨m', o, mvs, tb, pb, em, et, ep, M, tl, t0, F, N, nd, hit, _⟩
    exact hit
  case h0 =>
    refine' ⟨_, o0, mvs, tb, pb, em, et, ep, M, tl, t0, F2, N2, nd2, ?q1, Nat.zero_le _, ?q2, ?q3, ?q4, ?q5, ?q6, ?q7⟩
    case q1 => simpa using hit0
    case q2 => rw [show lf.drop 0 ++ pickK sN lf 0 = lf from List.append_nil _]; exact hpb
    case q3 => rw [show sk ++ pickS sN lf 0 = sk from List.append_nil _]; exact htb
    case q4 => rw [show mk ++ (placesS sN 0).map (fun p => (tau, p)) = mk from List.append_nil _]; exact hM
    case q5 => exact hm1
    case q6 => exact hm5
    case q7 => intro y _ _ _ _; rfl
  case turn =>
    clear F2 N2 nd2 hm1 hm5 hpb htb hM hit0
    rintro j v h h' t hj hP ⟨m', o, mvs, tb, pb, em, et, ep, M, tl, t0, F, N, ndi, hit, hjn, hpb, htb, hM, f1', f2', hme⟩ hk hst
    obtain ⟨F, N⟩ := iter_turn F N ndi hk hst
    obtain ⟨tv, rfl⟩ := hP
    rw [show (1 : Int) + (j : Nat) * 1 = ((j + 1 : Nat) : Int) by omega]
    obtain ⟨k, hkl⟩ : ∃ q, lf[j]? = some q := ⟨_, List.getElem?_eq_getElem hj⟩
    have hkn := hlt k (List.mem_of_getElem? hkl)
    obtain ⟨rk, hrk⟩ : ∃ q, R[k]? = some q := ⟨_, List.getElem?_eq_getElem (show k < R.length by rw [GR.len]; exact hkn)⟩
    have hdrop : lf.drop j = k :: lf.drop (j + 1) := by
      obtain ⟨hi, he⟩ := List.getElem?_eq_some_iff.mp hkl
      rw [← he]; exact List.drop_eq_getElem_cons hi
    rw [hdrop, List.cons_append, List.map_cons] at hpb
    obtain ⟨ty, us, rfl, hus⟩ := strs_cons' hpb
    have hul : us.length ≤ 22 := by
      rw [StrsAre.len hus, List.length_map, List.length_append, List.length_drop]
      have : (pickK sN lf j).length ≤ 11 := by
        unfold pickK
        refine Nat.le_trans (List.length_filterMap_le _ _) (Nat.le_trans (List.length_filter_le _ _) ?_)
        rw [List.length_range]; omega
      omega
    have htl : tb.length ≤ 22 := by
      rw [StrsAre.len htb, List.length_map, List.length_append]
      have : (pickS sN lf j).length ≤ 11 := by
        unfold pickS
        refine Nat.le_trans (List.length_filterMap_le _ _) (Nat.le_trans (List.length_filter_le _ _) ?_)
        rw [List.length_range]; omega
      omega
    have hml : mvs.toArray.size ≤ 44 := by
      rw [List.size_toArray, hM.len, List.length_append, List.length_map]
      have : (placesS sN j).length ≤ 11 := by
        unfold placesS
        rw [List.length_map]
        refine Nat.le_trans (List.length_filter_le _ _) ?_
        rw [List.length_range]; omega
      omega
    have hWd := Wd_at hrk
    have g1 : m' "marks" = some (.ref Dm) := (hme _ (by decide) (by decide) (by decide) (by decide)).trans hm3
    have g2 : m' "turn" = some (.int (tau : Nat) tt) := (hme _ (by decide) (by decide) (by decide) (by decide)).trans hm4
    have hfm : ((j + 1 : Nat) : Int).fmod (sN : Nat) = (((j + 1) % sN : Nat) : Int) := fmod_nat _ _
    dsimp only [At]
    walk_at "stms"
    with_reducible rename Fr _ _ _ _ => Fx
    with_reducible rename News _ _ _ _ => Nx
    refine wpAny_call (get_back_ok ⟨rfl, rfl⟩ (x := x) (dx := dx) (l := l) (us := us) B Fx.keep (r.less (by omega)) (own_of_news Nx fun p hp => .tail _ (.tail _ (.tail _ (.tail _ (.tail _ (.tail _ (List.mem_append_left _ hp))))))) (List.Nodup.sublist (List.sublist_append_left [x, dx, l] _) (ndt (ndt (ndt (ndt (ndt (ndt ndi))))))) (by omega) (fun h5 t5 e5 k5 O5 => ?_))
    obtain ⟨F5, N5⟩ := after_put [8] Fx Nx ndi rfl rfl k5 O5 rfl rfl
    replace N5 : News g L h5 ((I, _) :: (Dm, listOf (List.toArray mvs) em) :: (x2, instObj 112 dx2) :: (dx2, lexD w.params b1 b2 b3 b4 b5 n2 un f2 l2) :: (l2, listOf (List.toArray tb) et) :: (Dn, oN) :: (x, instObj 112 dx) :: (dx, lexD w.params a1 a2 a3 a4 a5 n tn f1 l) :: (l, listOf (List.toArray us) e5) :: (c3, o3) :: (c4, o4) :: (c6, o6) :: (c9, o9) :: (M ++ rst)) := N5
    clear Fx Nx
    dsimp only
    walk_at "stms"
    with_reducible rename Fr _ _ _ _ => Fy
    with_reducible rename News _ _ _ _ => Ny
    have hhas : kdpHas (numT R) (Wd R k) = true := by rw [hWd]; exact num_has (List.mem_of_getElem? hrk)
    refine kdp_notin (c := numT R) (PyProof.Rows.TabAt.ofNews Ny (by k_mem) lo hs hf) ?_
    rw [hhas]
    by_cases hz : (j + 1) % sN = 0
    · have hc0 : ((j + 1 : Nat) : Int).fmod (sN : Nat) = 0 := by rw [hfm, hz]; rfl
      walk_at "stms"
      refine wpAny_call (push_ok ⟨rfl, rfl⟩ (x := x2) (dx := dx2) (l := l2) (vs := tb) B Fy.keep (r.less (by omega)) (own_of_news Ny fun p hp => .tail _ (.tail _ (List.mem_append_left _ hp))) (List.Nodup.sublist (List.sublist_append_left [x2, dx2, l2] _) (ndt (ndt ndi))) (by omega) (fun h8 t8 e8 k8 O8 => ?_))
      obtain ⟨F8, N8⟩ := after_put [4] Fy Ny ndi rfl rfl k8 O8 rfl rfl
      replace N8 : News g L h8 ((I, ({ cls := Value.type "range_iterator", data := Data.fields #[rawInt (1 + ((j + 1 : Nat) : Int) * 1), rawInt ((lf.length : Int) - ((j + 1 : Nat) : Int)), rawInt 1] } : Obj)) :: (Dm, listOf (List.toArray mvs) em) :: (x2, instObj 112 dx2) :: (dx2, lexD w.params b1 b2 b3 b4 b5 n2 un f2 l2) :: (l2, listOf (List.toArray (tb ++ [Value.str (Wd R k) ty])) e8) :: (Dn, oN) :: (x, instObj 112 dx) :: (dx, lexD w.params a1 a2 a3 a4 a5 n tn f1 l) :: (l, listOf (List.toArray us) e5) :: (c3, o3) :: (c4, o4) :: (c6, o6) :: (c9, o9) :: (M ++ rst)) := N8
      clear Fy Ny
      dsimp only
      walk_at "stms"
      with_reducible rename Fr _ _ _ _ => Fz
      with_reducible rename News _ _ _ _ => Nz
      with_reducible rename List.Nodup _ => ndz
      rename_i am hA hB
      rw [show mvs.toArray.push (Value.ref am) = (mvs ++ [Value.ref am]).toArray by simp] at Nz
      refine' ⟨_, _, rfl, _, _, mvs ++ [Value.ref am], tb ++ [Value.str (Wd R k) ty], us, _, _, _, (am, listOf #[.int (tau : Nat) _, .int ((j + 1 : Nat) : Int) _] 0) :: M, _, _, Fz, news_in (pre := (I, ({ cls := Value.type "range_iterator", data := Data.fields #[rawInt (1 + ((j + 1 : Nat) : Int) * 1), rawInt ((lf.length : Int) - ((j + 1 : Nat) : Int)), rawInt 1] } : Obj)) :: (Dm, listOf (List.toArray (mvs ++ [Value.ref am])) (em + 1)) :: (x2, instObj 112 dx2) :: (dx2, lexD w.params b1 b2 b3 b4 b5 n2 un f2 l2) :: (l2, listOf (List.toArray (tb ++ [Value.str (Wd R k) ty])) e8) :: (Dn, oN) :: (x, instObj 112 dx) :: (dx, lexD w.params a1 a2 a3 a4 a5 n tn f1 l) :: (l, listOf (List.toArray us) e5) :: (c3, o3) :: (c4, o4) :: (c6, o6) :: (c9, o9) :: []) (M := M ++ rst) Nz, nd_in (a := (am, listOf #[.int (tau : Nat) tt, .int ((j + 1 : Nat) : Int) tv] 0)) (pre := (I, ({ cls := Value.type "range_iterator", data := Data.fields #[rawInt (1 + ((j + 1 : Nat) : Int) * 1), rawInt ((lf.length : Int) - ((j + 1 : Nat) : Int)), rawInt 1] } : Obj)) :: (Dm, listOf (List.toArray (mvs ++ [Value.ref am])) (em + 1)) :: (x2, instObj 112 dx2) :: (dx2, lexD w.params b1 b2 b3 b4 b5 n2 un f2 l2) :: (l2, listOf (List.toArray (tb ++ [Value.str (Wd R k) ty])) e8) :: (Dn, oN) :: (x, instObj 112 dx) :: (dx, lexD w.params a1 a2 a3 a4 a5 n tn f1 l) :: (l, listOf (List.toArray us) e5) :: (c3, o3) :: (c4, o4) :: (c6, o6) :: (c9, o9) :: []) (M := M ++ rst) ndz, ?q1, by omega, ?q2, ?q3, ?q4, ?q5, ?q6, ?q7⟩
      case q1 => exact (Nz _ (.tail _ (.head _))).1
      case q2 => rw [pickK_snoc hkl, if_pos hz, List.append_nil]; exact hus
      case q3 => rw [pickS_snoc hkl, if_pos hz, ← List.append_assoc, List.map_append]; exact StrsAre.snoc htb
      case q4 => rw [places_snoc, if_pos hz, List.map_append, ← List.append_assoc]; exact MkA.snoc am tau (j + 1) _ _ 0 hM
      case q5 => rw [pickK_snoc hkl, if_pos hz, List.append_nil]; exact f1'
      case q6 => rw [pickK_snoc hkl, if_pos hz, List.append_nil]; exact f2'
      case q7 =>
        intro y h1 h2 h3 h4
        exact (if_neg h2).trans ((if_neg h1).trans (hme y h1 h2 h3 h4))
    · have hc0 : ¬ ((j + 1 : Nat) : Int).fmod (sN : Nat) = 0 := by rw [hfm]; omega
      walk_at "stms"
      refine wpAny_call (push_ok ⟨rfl, rfl⟩ (x := x) (dx := dx) (l := l) (vs := us) B Fy.keep (r.less (by omega)) (own_of_news Ny fun p hp => .tail _ (.tail _ (.tail _ (.tail _ (.tail _ (.tail _ (List.mem_append_left _ hp))))))) (List.Nodup.sublist (List.sublist_append_left [x, dx, l] _) (ndt (ndt (ndt (ndt (ndt (ndt ndi))))))) (by omega) (fun h8 t8 e8 k8 O8 => ?_))
      obtain ⟨F8, N8⟩ := after_put [8] Fy Ny ndi rfl rfl k8 O8 rfl rfl
      replace N8 : News g L h8 ((I, ({ cls := Value.type "range_iterator", data := Data.fields #[rawInt (1 + ((j + 1 : Nat) : Int) * 1), rawInt ((lf.length : Int) - ((j + 1 : Nat) : Int)), rawInt 1] } : Obj)) :: (Dm, listOf (List.toArray mvs) em) :: (x2, instObj 112 dx2) :: (dx2, lexD w.params b1 b2 b3 b4 b5 n2 un f2 l2) :: (l2, listOf (List.toArray tb) et) :: (Dn, oN) :: (x, instObj 112 dx) :: (dx, lexD w.params a1 a2 a3 a4 a5 n tn f1 l) :: (l, listOf (List.toArray (us ++ [Value.str (Wd R k) ty])) e8) :: (c3, o3) :: (c4, o4) :: (c6, o6) :: (c9, o9) :: (M ++ rst)) := N8
      clear Fy Ny
      dsimp only
      walk_at "stms"
      with_reducible rename Fr _ _ _ _ => Fy
      refine wpAny_loadName_local (by rfl) (by rfl) Fy.ns (show _ = some (Value.int ((pickK sN lf j).length : Nat) t0) from f2') ?_
      walk_at "stms"
      with_reducible rename Fr _ _ _ _ => Fz
      with_reducible rename News _ _ _ _ => Nz
      refine' ⟨_, _, rfl, _, _, mvs, tb, us ++ [Value.str (Wd R k) ty], _, _, _, M, _, _, Fz, Nz, ndi, ?q1, by omega, ?q2, ?q3, ?q4, ?q5, ?q6, ?q7⟩
      case q1 => exact (Nz _ (.head _)).1
      case q2 => rw [pickK_snoc hkl, if_neg hz, ← List.append_assoc, List.map_append]; exact StrsAre.snoc hus
      case q3 => rw [pickS_snoc hkl, if_neg hz, List.append_nil]; exact htb
      case q4 => rw [places_snoc, if_neg hz, List.append_nil]; exact hM
      case q5 =>
        rw [pickK_snoc hkl, if_neg hz, last_snoc]
        rfl
      case q6 =>
        rw [pickK_snoc hkl, if_neg hz, List.length_append]
        rfl
      case q7 =>
        intro y h1 h2 h3 h4
        exact (if_neg h4).trans ((if_neg h3).trans ((if_neg h2).trans ((if_neg h1).trans (hme y h1 h2 h3 h4))))
  case fin =>
    rintro h h' t ⟨m', o, mvs, tb, pb, em, et, ep, M, tl, t0, F, N, ndi, hit, hjn, hpb, htb, hM, f1', f2', hme⟩ hk
    obtain ⟨F, N⟩ := iter_end F N ndi hk
    clear F2 N2 nd2
    rw [List.drop_length, List.nil_append] at hpb
    dsimp only [At]
    walk_at "stms"
    exact hQ _ _ _ mvs tb pb em et ep M tl t0 F N (ndt ndi) hpb htb hM f1' f2' hme
end
section
example : True := by w_top off; trivial
def Postr3 (w : World) (d : Nat) (fs : Option (List Env)) (gd : Option (List Code)) (u : Nat) (Q : Flow → Shared → Prop) (s : Shared) (g h : Heap) (t : Nat) (L c1 c2 c3 c4 c5 c6 c7 c8 c9 c10 Dsk Dl Dst : Addr) (ts t0 : Tok) (o7 o8 o9 : Obj) (m : Str → Option Value) (rst : List (Addr × Obj)) (zs sks sts : List Value) (esk el est : Nat) (lf sk st : List Nat) (sN cnt : Nat) : Prop :=
  ∀ (h : Heap) (t : Nat) (m' : Str → Option Value) (D2 D6 : Addr) (o8 : Obj) (sks' ws : List Value) (e2 e6 : Nat) (ts : Tok), Fr g L h m' → News g L h ((D6, listOf ws.toArray e6) :: (D2, listOf sks'.toArray e2) :: (Dst, listOf (sts ++ [Value.int (sN : Nat) ts]).toArray (est + 1)) :: (c7, o7) :: (c8, o8) :: (c9, o9) :: rst) → (D6 :: D2 :: Dst :: c7 :: c8 :: c9 :: ads rst).Nodup →
    IntsAre sks' ((sk ++ pickS sN lf lf.length).map (Nat.cast : Nat → Int)) → IntsAre ws ((pickK sN lf lf.length).map (Nat.cast : Nat → Int)) → o8.data = .cell (some (.ref D6)) → m' "count" = some (.int (cnt : Nat) t0) → m' "struck" = some (.ref D2) → (∀ y : Str, y ≠ "count" → y ≠ "struck" → m' y = m y) →
    wpAny (model P0 w) ⟨none, d, fs, gd, u⟩ (execs ((rbody w.params).drop 8) (lawEnv w.params L c1 c2 c3 c4 c5 c6 c7 c8 c9 c10)) Q (fun _ _ => False) (At s h t)
theorem segr3 (hK : PySem.Challenge.rw_pg0241_01 = PySem.Challenge.rw_pg0241_01 ∧ heapK = heapK) {w : World} {d : Nat} {fs : Option (List Env)} {gd : Option (List Code)} {u : Nat} {Q : Flow → Shared → Prop} {s : Shared} {g h : Heap} {t : Nat} {L c1 c2 c3 c4 c5 c6 c7 c8 c9 c10 Dsk Dl Dst : Addr} {ts t0 : Tok} {o7 o8 o9 : Obj} {m : Str → Option Value} {rst : List (Addr × Obj)} {zs sks sts : List Value} {esk el est : Nat} {lf sk st : List Nat} {sN cnt : Nat}
  (B : Bs w g) (r : Rm ⟨none, d, fs, gd, u⟩ 80) (hlf : lf.length ≤ 11) (hsk : sk.length ≤ 11) (hst : st.length ≤ 3) (hsN : 2 ≤ sN ∧ sN ≤ 4)
  (hzs : IntsAre zs (lf.map (Nat.cast : Nat → Int))) (hsks : IntsAre sks (sk.map (Nat.cast : Nat → Int))) (hsts : IntsAre sts (st.map (Nat.cast : Nat → Int)))
  (d7 : o7.data = .cell (some (.ref Dst))) (d8 : o8.data = .cell (some (.ref Dl))) (d9 : o9.data = .cell (some (.int (sN : Nat) ts)))
  (F : Fr g L h m) (N : News g L h ((Dsk, listOf sks.toArray esk) :: (Dl, listOf zs.toArray el) :: (Dst, listOf sts.toArray est) :: (c7, o7) :: (c8, o8) :: (c9, o9) :: rst))
  (nd : (Dsk :: Dl :: Dst :: c7 :: c8 :: c9 :: ads rst).Nodup)
  (hm1 : m "struck" = some (.ref Dsk)) (hm2 : m "stay" = some (.int (cnt : Nat) t0))
  (hQ : Postr3 w d fs gd u Q s g h t L c1 c2 c3 c4 c5 c6 c7 c8 c9 c10 Dsk Dl Dst ts t0 o7 o8 o9 m rst zs sks sts esk el est lf sk st sN cnt) :
  wpAny (model P0 w) ⟨none, d, fs, gd, u⟩ (execs ((rbody w.params).drop 4) (lawEnv w.params L c1 c2 c3 c4 c5 c6 c7 c8 c9 c10)) Q (fun _ _ => False) (At s h t) := by
  revert hK; k_fill; intro hK; clear hK
  obtain ⟨p, loose, mean, mg, mb, T⟩ := B.T
  have X := B.X
  have hzl : zs.toArray.size = lf.length := by rw [List.size_toArray, hzs.length, List.length_map]
  have hskl : sks.toArray.size ≤ 11 := by rw [List.size_toArray, hsks.length, List.length_map]; exact hsk
  have hstl : sts.toArray.size ≤ 3 := by rw [List.size_toArray, hsts.length, List.length_map]; exact hst
  dsimp only [At]
  (rw [show (rbody w.params).drop 4 = rb w.params 4 :: (rbody w.params).drop 5 from rfl]; conv in (rb w.params 4) => whnf)
  walk_at "stms"
  (rw [show (rbody w.params).drop 5 = rb w.params 5 :: (rbody w.params).drop 6 from rfl]; conv in (rb w.params 5) => whnf)
  walk_at "stms"
  (rw [show (rbody w.params).drop 6 = rb w.params 6 :: (rbody w.params).drop 7 from rfl]; conv in (rb w.params 6) => whnf)
  (repeat' ((fail_if_success (with_reducible show wpAny _ _ (subscriptTail _ (Expr.Slice _ _ (some _) _) _ _) _ _ _)); (walk_at "stop"); first | walk1 | (dsimp only; walk1)))
  with_reducible rename Fr _ _ _ _ => Fx
  with_reducible rename News _ _ _ _ => Nx
  refine slice_list3 (lo := some ((sN : Int) - 1)) (hi := none) (st := some (sN : Int)) Fx Nx (News.isList (a := Dl) (items := zs.toArray) (n := el) Nx (.tail _ (.head _))) (IsPart.int _ _) IsPart.none (IsPart.int _ _) (by intro e; injection e with e; omega) (fun h6 F6 N6 => ?_) (by with_unfolding_all rfl) (by intro _; with_unfolding_all rfl) (by rw [hzl]; exact Nat.le_trans hlf (by decide))
  have nd6 := nd_cons nd rfl (fun p hp => Nat.lt_succ_of_lt (Heap.lt_size (Nx p hp).1))
  clear Fx Nx
  dsimp only at N6 nd6 ⊢
  have hsl := slice_strike hsN hlf hzs
  rw [show ((sN : Nat) : Int) - 1 = ((sN - 1 : Nat) : Int) by omega] at N6
  have hsz := slicePick_size_le zs.toArray (some ((sN - 1 : Nat) : Int)) none (some (sN : Int))
  generalize slicePick zs.toArray (some ((sN - 1 : Nat) : Int)) none (some (sN : Int)) = pa at N6 hsl hsz
  obtain ⟨ps, rfl⟩ : ∃ ps : List Value, pa = ps.toArray := ⟨pa.toList, by simp⟩
  rw [hzl] at hsz
  replace hsz : ps.toArray.size ≤ 11 := Nat.le_trans hsz hlf
  replace hsl : IntsAre ps ((pickS sN lf lf.length).map (Nat.cast : Nat → Int)) := by simpa using hsl
  have nd7 := nd_cons nd6 rfl (fun p hp => Heap.lt_size (N6 p hp).1)
  walk_at "stms"
  with_reducible rename Fr _ _ _ _ => Fx
  with_reducible rename News _ _ _ _ => Nx
  dsimp only at Fx Nx
  rw [show sts.toArray.push (Value.int (sN : Nat) ts) = (sts ++ [Value.int (sN : Nat) ts]).toArray by simp] at Nx
  have hit2 : IntsAre (sks ++ ps) ((sk ++ pickS sN lf lf.length).map (Nat.cast : Nat → Int)) := by rw [List.map_append]; exact ints_app hsks hsl
  generalize h6.objs.size = D2 at Fx Nx nd7
  have Ny : News g L _ ((D2, listOf (sks ++ ps).toArray 0) :: (Dl, listOf zs.toArray el) :: (Dst, listOf (sts ++ [Value.int (sN : Nat) ts]).toArray (est + 1)) :: (c7, o7) :: (c8, o8) :: (c9, o9) :: rst) := news_sub Nx (List.Sublist.cons_cons _ (List.Sublist.cons _ (List.Sublist.cons _ (List.Sublist.refl _))))
  have ndy : (D2 :: Dl :: Dst :: c7 :: c8 :: c9 :: ads rst).Nodup := List.Nodup.sublist (List.Sublist.cons_cons _ (List.Sublist.cons _ (List.Sublist.cons _ (List.Sublist.refl _)))) nd7
  clear Nx nd7 nd6 nd
  (rw [show (rbody w.params).drop 7 = rb w.params 7 :: (rbody w.params).drop 8 from rfl]; conv in (rb w.params 7) => whnf)
  walk_at "stms"
  refine wpAny_Assign_Name ?_
  refine compE (cl := [("step", c9), ("left", c8)]) (by rfl) (by decide) rfl (by decide) (by decide) ?_
  walk_at "stms"
  with_reducible rename Fr _ _ _ _ => Fz
  with_reducible rename News _ _ _ _ => Nz
  with_reducible rename IsRange _ _ _ _ _ _ _ _ => hrg
  refine iterRange (n := lf.length) Fz Nz hrg (by omega) (by decide) (by omega) (fun I6 h7 o6i F7 N7 l7 hit7 => ?_)
  have nd7 := nd_cons ndy rfl l7
  clear Fz Nz
  refine compG_range (L := L) (a := 0) (n := lf.length) rfl rfl B F7 N7 nd7 hit7 (fun i ws G => i ≤ lf.length ∧ G = ((D2, listOf (sks ++ ps).toArray 0) :: (Dl, listOf zs.toArray el) :: (Dst, listOf (sts ++ [Value.int (sN : Nat) ts]).toArray (est + 1)) :: (c7, o7) :: (c8, o8) :: (c9, o9) :: rst) ∧ IntsAre ws ((pickK sN lf i).map (Nat.cast : Nat → Int))) ?J0 ?Jl ?jturn ?jfin
  case J0 => exact ⟨Nat.zero_le _, rfl, IntsAre.nil⟩
  case Jl =>
    rintro i ws G ⟨hin, rfl, hi⟩
    have := hi.length
    rw [List.length_map] at this
    have : (pickK sN lf i).length ≤ 11 := by
      unfold pickK
      refine Nat.le_trans (List.length_filterMap_le _ _) (Nat.le_trans (List.length_filter_le _ _) ?_)
      rw [List.length_range]; omega
    omega
  case jturn =>
    rintro g₂ C D6 i6 v6 ws G oi e6 h8 t8 m8 gg₂ B₂ hi6 ⟨tv6, rfl⟩ ⟨_, rfl, hws⟩ F8 N8 nd8
    clear F7 N7
    rw [Int.zero_add] at *
    obtain ⟨a, ha⟩ : ∃ q, lf[i6]? = some q := ⟨_, List.getElem?_eq_getElem hi6⟩
    have hfm : ((i6 : Int) + 1).fmod (sN : Nat) = (((i6 + 1) % sN : Nat) : Int) := fmod_nat (i6 + 1) sN
    refine wpAny_tests_one ?_
    by_cases hz : (i6 + 1) % sN = 0
    · have hc0 : ((i6 : Int) + 1).fmod (sN : Nat) = 0 := by rw [hfm, hz]; rfl
      walk_at "stms"
      show TurnEnd _ _ _ _ _ _ _ _ _ _
      refine ⟨_, _, _, _, rfl, F8, N8, nd8, hi6, rfl, ?_⟩
      rw [pickK_snoc ha, if_pos hz, List.append_nil]
      exact hws
    · have hc0 : ¬ ((i6 : Int) + 1).fmod (sN : Nat) = 0 := by rw [hfm]; omega
      walk_at "stms"
      show TurnEnd _ _ _ _ _ _ _ _ _ _
      refine ⟨_, _, _, _, rfl, F8, N8, nd8, hi6, rfl, ?_⟩
      rw [pickK_snoc ha, if_neg hz, List.map_append, show (List.map (Nat.cast : Nat → Int) lf).getD ((i6 : Int)).toNat 0 = (a : Int) by rw [Int.toNat_natCast, List.getD_eq_getElem?_getD, List.getElem?_map, ha]; rfl]
      exact ints_app hws (IntsAre.cons _ _ IntsAre.nil)
  case jfin =>
    rintro D6 ws G e6 h8 t8 ⟨_, rfl, hws⟩ F8 N8 nd8
    clear F7 N7
    dsimp only [At]
    walk_at "stms"
    with_reducible rename (Obj.data _ = _) => d8'
    with_reducible rename Obj => o8'
    with_reducible rename Fr _ _ _ _ => Fy
    with_reducible rename News _ _ _ _ => Ny
    refine' hQ _ _ _ D2 D6 o8' (sks ++ ps) ws 0 e6 ts Fy (news_sub Ny ?b1) (List.Nodup.sublist ?b2 nd8) hit2 hws d8' ?b3 ?b4 ?b5
    case b1 => exact (List.Sublist.cons_cons _ (List.Sublist.cons_cons _ (List.Sublist.cons _ (List.Sublist.refl _))))
    case b2 => exact (List.Sublist.cons_cons _ (List.Sublist.cons_cons _ (List.Sublist.cons _ (List.Sublist.refl _))))
    case b3 => rfl
    case b4 => rfl
    case b5 =>
      intro y h1 h2
      exact (if_neg h2).trans (if_neg h1)
end
section
example : True := by w_top off; trivial
def Post6 (w : World) (d : Nat) (fs : Option (List Env)) (gd : Option (List Code)) (u : Nat) (Q : Flow → Shared → Prop) (s : Shared) (g h : Heap) (t : Nat) (L c1 c2 c3 c4 c5 c6 c7 c8 c9 c10 Dsk Dl Dm Dst Dv Dn x2 dx2 l2 f2 x dx l f1 : Addr) (a1 a2 a3 a4 a5 tn b1 b2 b3 b4 b5 un tl tc : Tok) (n n2 : Int) (oN o3 o4 o6 o7 o8 o9 : Obj) (m : Str → Option Value) (rst G : List (Addr × Obj)) (R : List Row) (nR : Nat) (kvs : List (Str × Value)) (zs vv pb : List Value) (esk el em est et ep ev : Nat) : Prop :=
  ∀ (h : Heap) (t : Nat) (m' : Str → Option Value) (o8 : Obj) (Dsk Dl : Addr) (sks zs mvs sts tb pb : List Value) (esk el em est et ep : Nat) (M G : List (Addr × Obj)) (tc : Tok) (st : List Nat) (o9 : Obj), st.length = 3 → (∀ s ∈ st, 2 ≤ s ∧ s ≤ 4) → Fr g L h m' → News g L h ((Dsk, listOf (List.toArray sks) esk) :: (Dl, listOf (List.toArray zs) el) :: (Dm, listOf (List.toArray mvs) em) :: (Dst, listOf (List.toArray sts) est) :: (x2, instObj 112 dx2) :: (dx2, lexD w.params b1 b2 b3 b4 b5 n2 un f2 l2) :: (l2, listOf (List.toArray tb) et) :: (Dn, oN) :: (x, instObj 112 dx) :: (dx, lexD w.params a1 a2 a3 a4 a5 n tn f1 l) :: (l, listOf (List.toArray pb) ep) :: (Dv, listOf (List.toArray vv) ev) :: (c3, o3) :: (c4, o4) :: (c6, o6) :: (c7, o7) :: (c8, o8) :: (c9, o9) :: ((M ++ rst) ++ G)) → (Dsk :: Dl :: Dm :: Dst :: x2 :: dx2 :: l2 :: Dn :: x :: dx :: l :: Dv :: c3 :: c4 :: c6 :: c7 :: c8 :: c9 :: ads ((M ++ rst) ++ G)).Nodup → Tabs G →
    IntsAre zs ((runS nR st).1.map (Nat.cast : Nat → Int)) → IntsAre sks ((runS nR st).2.1.map (Nat.cast : Nat → Int)) → IntsAre sts (st.map (Nat.cast : Nat → Int)) → StrsAre pb ((runS nR st).1.map (Wd R)) → StrsAre tb ((runS nR st).2.1.map (Wd R)) → MkA mvs M (runS nR st).2.2.1 → o8.data = .cell (some (.ref Dl)) →
    m' "count" = some (.int ((runS nR st).1.length : Nat) tc) → m' "struck" = some (.ref Dsk) → (∀ y : Str, y ≠ "turn" → y ≠ "place" → y ≠ "word" → y ≠ "last" → y ≠ "stay" → y ≠ "count" → y ≠ "struck" → m' y = m y) →
    wpAny (model P0 w) ⟨none, d, fs, gd, u⟩ (execs ((lawBody w.params).drop 25) (lawEnv w.params L c1 c2 c3 c4 c5 c6 c7 c8 c9 c10)) Q (fun _ _ => False) (At s h t)
abbrev JL10a (w : World) (g : Heap) (L : Addr) (c3 : Addr) (c4 : Addr) (c6 : Addr) (c7 : Addr) (c8 : Addr) (c9 : Addr) (Dm : Addr) (Dst : Addr) (Dv : Addr) (Dn : Addr) (x2 : Addr) (dx2 : Addr) (l2 : Addr) (f2 : Addr) (x : Addr) (dx : Addr) (l : Addr) (f1 : Addr) (a1 : Tok) (a2 : Tok) (a3 : Tok) (a4 : Tok) (a5 : Tok) (tn : Tok) (b1 : Tok) (b2 : Tok) (b3 : Tok) (b4 : Tok) (b5 : Tok) (un : Tok) (n : Int) (n2 : Int) (oN : Obj) (o3 : Obj) (o4 : Obj) (o6 : Obj) (o7 : Obj) (m : Str → Option Value) (rst : List (Addr × Obj)) (R : List Row) (nR : Nat) (vv : List Value) (ev : Nat) (I : Addr) : Nat → Heap → Prop := fun (i : Nat) (h : Heap) => Ex25 fun (st : List Nat) (m' : Str → Option Value) (o o8 o9 : Obj) (Dsk Dl : Addr) (sks zs mvs sts tb pb : List Value) (esk el em est et ep : Nat) (M G : List (Addr × Obj)) (tl tc : Tok) (k : Nat) (v9 : Option Value) => And21 (st.length = i) (i ≤ 3) ((∀ s ∈ st, 2 ≤ s ∧ s ≤ 4)) (Fr g L h m') (News g L h ((I, o) :: (Dsk, listOf (List.toArray sks) esk) :: (Dl, listOf (List.toArray zs) el) :: (Dm, listOf (List.toArray mvs) em) :: (Dst, listOf (List.toArray sts) est) :: (x2, instObj 112 dx2) :: (dx2, lexD w.params b1 b2 b3 b4 b5 n2 un f2 l2) :: (l2, listOf (List.toArray tb) et) :: (Dn, oN) :: (x, instObj 112 dx) :: (dx, lexD w.params a1 a2 a3 a4 a5 n tn f1 l) :: (l, listOf (List.toArray pb) ep) :: (Dv, listOf (List.toArray vv) ev) :: (c3, o3) :: (c4, o4) :: (c6, o6) :: (c7, o7) :: (c8, o8) :: (c9, o9) :: ((M ++ rst) ++ G))) ((I :: Dsk :: Dl :: Dm :: Dst :: x2 :: dx2 :: l2 :: Dn :: x :: dx :: l :: Dv :: c3 :: c4 :: c6 :: c7 :: c8 :: c9 :: ads ((M ++ rst) ++ G)).Nodup) (IsRangeIter h I (0 + (i : Nat) * 1) (((3 : Nat) : Int) - (i : Nat)) 1) (Tabs G) (IntsAre zs ((runS nR st).1.map (Nat.cast : Nat → Int))) (IntsAre sks ((runS nR st).2.1.map (Nat.cast : Nat → Int))) (IntsAre sts (st.map (Nat.cast : Nat → Int))) (StrsAre pb ((runS nR st).1.map (Wd R))) (StrsAre tb ((runS nR st).2.1.map (Wd R))) (MkA mvs M (runS nR st).2.2.1) (o8.data = .cell (some (.ref Dl))) (o9.data = .cell v9) ((runS nR st).1[(runS nR st).1.length - 1]? = some k) (m' "last" = some (.str (Wd R k) tl)) (m' "count" = some (.int ((runS nR st).1.length : Nat) tc)) (m' "struck" = some (.ref Dsk)) (∀ y : Str, y ≠ "turn" → y ≠ "place" → y ≠ "word" → y ≠ "last" → y ≠ "stay" → y ≠ "count" → y ≠ "struck" → m' y = m y)
theorem seg6 (hK : PySem.Challenge.rw_pg0241_01 = PySem.Challenge.rw_pg0241_01 ∧ heapK = heapK) {w : World} {d : Nat} {fs : Option (List Env)} {gd : Option (List Code)} {u : Nat} {Q : Flow → Shared → Prop} {s : Shared} {g h : Heap} {t : Nat} {L c1 c2 c3 c4 c5 c6 c7 c8 c9 c10 Dsk Dl Dm Dst Dv Dn x2 dx2 l2 f2 x dx l f1 : Addr} {a1 a2 a3 a4 a5 tn b1 b2 b3 b4 b5 un tl tc : Tok} {n n2 : Int} {oN o3 o4 o6 o7 o8 o9 : Obj} {m : Str → Option Value} {rst G : List (Addr × Obj)} {R : List Row} {nR : Nat} {kvs : List (Str × Value)} {zs vv pb : List Value} {esk el em est et ep ev : Nat}
  (B : Bs w g) (r : Rm ⟨none, d, fs, gd, u⟩ 80) (GR : GoodR R nR) (hnR : 6 ≤ nR ∧ nR ≤ 11) (TG : Tabs G) (lo : (Dn == sysModules) = false) (hs : Obj.IsDictOf (PySem.strKind P0 w) oN kvs) (hf : PyProof.V.FlatPairs PyData.str kvs (kdpD (numT R)))
  (hvv : IntsAre vv (R.map fun r => (r.1 : Int))) (hzs : IntsAre zs ((List.range nR).map (Nat.cast : Nat → Int))) (hpb : StrsAre pb (R.map fun r => strOf (wordOf r.1)))
  (d3 : o3.data = .cell (some (.ref x))) (d4 : o4.data = .cell (some (.ref Dn))) (d6 : o6.data = .cell (some (.ref x2))) (d7 : o7.data = .cell (some (.ref Dst))) (d8 : o8.data = .cell (some (.ref Dl))) (d9 : o9.data = .cell none)
  (F : Fr g L h m) (N : News g L h ((Dsk, listOf (List.toArray []) esk) :: (Dl, listOf (List.toArray zs) el) :: (Dm, listOf (List.toArray []) em) :: (Dst, listOf (List.toArray []) est) :: (x2, instObj 112 dx2) :: (dx2, lexD w.params b1 b2 b3 b4 b5 n2 un f2 l2) :: (l2, listOf (List.toArray []) et) :: (Dn, oN) :: (x, instObj 112 dx) :: (dx, lexD w.params a1 a2 a3 a4 a5 n tn f1 l) :: (l, listOf (List.toArray pb) ep) :: (Dv, listOf (List.toArray vv) ev) :: (c3, o3) :: (c4, o4) :: (c6, o6) :: (c7, o7) :: (c8, o8) :: (c9, o9) :: (rst ++ G)))
  (nd : (Dsk :: Dl :: Dm :: Dst :: x2 :: dx2 :: l2 :: Dn :: x :: dx :: l :: Dv :: c3 :: c4 :: c6 :: c7 :: c8 :: c9 :: ads (rst ++ G)).Nodup)
  (hm1 : m "last" = some (.str (Wd R (nR - 1)) tl)) (hm2 : m "count" = some (.int (nR : Nat) tc)) (hm3 : m "marks" = some (.ref Dm)) (hm4 : m "values" = some (.ref Dv)) (hm5 : m "struck" = some (.ref Dsk))
  (hQ : Post6 w d fs gd u Q s g h t L c1 c2 c3 c4 c5 c6 c7 c8 c9 c10 Dsk Dl Dm Dst Dv Dn x2 dx2 l2 f2 x dx l f1 a1 a2 a3 a4 a5 tn b1 b2 b3 b4 b5 un tl tc n n2 oN o3 o4 o6 o7 o8 o9 m rst G R nR kvs zs vv pb esk el em est et ep ev) :
  wpAny (model P0 w) ⟨none, d, fs, gd, u⟩ (execs ((lawBody w.params).drop 24) (lawEnv w.params L c1 c2 c3 c4 c5 c6 c7 c8 c9 c10)) Q (fun _ _ => False) (At s h t) := by
  revert hK; k_fill; intro hK; clear hK
  obtain ⟨p, loose, mean, mg, mb, T⟩ := B.T
  have X := B.X
  dsimp only [At]
  rw [show (lawBody w.params).drop 24 = (Stmt.For _ _ ((rbody w.params).drop 0) [] _) :: (lawBody w.params).drop 25 from rfl]
  walk_at "stms"
  refine wpAny_For ?_
  walk_at "stms"
  with_reducible rename Fr _ _ _ _ => Fx
  with_reducible rename News _ _ _ _ => Nx
  with_reducible rename IsRange _ _ _ _ _ _ _ _ => hrg
  refine iterRange (n := 3) Fx Nx hrg (by omega) (by decide) (by omega) (fun I h2 o0 F2 N2 lI hit0 => ?_)
  have nd2 : (I :: Dsk :: Dl :: Dm :: Dst :: x2 :: dx2 :: l2 :: Dn :: x :: dx :: l :: Dv :: c3 :: c4 :: c6 :: c7 :: c8 :: c9 :: ads (rst ++ G)).Nodup := nd_cons nd rfl lI
  clear Fx Nx
  refine forW (Walks.range rfl I 0 1 3)
    (JL10a w g L c3 c4 c6 c7 c8 c9 Dm Dst Dv Dn x2 dx2 l2 f2 x dx l f1 a1 a2 a3 a4 a5 tn b1 b2 b3 b4 b5 un n n2 oN o3 o4 o6 o7 m rst R nR vv ev I)
    ?hJ ?h0 ?turn ?fin ?ht
  case ht => intro _; rfl
  case hJ =>
    rintro i h ⟨st, m', o, o8, o9, Dsk, Dl, sks, zs, mvs, sts, tb, pb, esk, el, em, est, et, ep, M, G, tl, tc, k, v9, h1, h2, h3, F, N, nd, hit, _⟩
    exact hit
  case h0 =>
    refine' ⟨[], _, o0, o8, o9, Dsk, Dl, [], zs, [], [], [], pb, esk, el, em, est, et, ep, [], G, tl, tc, nR - 1, none, rfl, by omega, ?q0, F2, N2, nd2, ?q1, TG, ?q2, ?q3, ?q4, ?q5, ?q6, ?q7, d8, d9, ?q8, ?q9, ?q10, ?q11, ?q12⟩
    case q0 => intro s hs; cases hs
    case q1 => simpa using hit0
    case q2 => exact hzs
    case q3 => exact IntsAre.nil
    case q4 => exact IntsAre.nil
    case q5 =>
      have e : (List.range nR).map (Wd R) = R.map fun r => strOf (wordOf r.1) := by
        refine List.ext_getElem? fun i => ?_
        rw [List.getElem?_map, List.getElem?_map, ← GR.len]
        by_cases hi : i < R.length
        · rw [List.getElem?_range hi, List.getElem?_eq_getElem hi]
          show some (Wd R i) = some _
          rw [Wd_at (List.getElem?_eq_getElem hi)]
        · rw [List.getElem?_eq_none (by simpa using hi), List.getElem?_eq_none (by simpa using hi)]; rfl
      show StrsAre pb ((List.range nR).map (Wd R))
      rw [e]; exact hpb
    case q6 => exact StrsAre.nil
    case q7 => exact MkA.nil
    case q8 =>
      show (List.range nR)[(List.range nR).length - 1]? = _
      rw [List.length_range, List.getElem?_range (by omega)]
    case q9 => exact hm1
    case q10 =>
      show _ = some (Value.int ((List.range nR).length : Nat) tc)
      rw [List.length_range]; exact hm2
    case q11 => exact hm5
    case q12 => intro y _ _ _ _ _ _ _; rfl
  case turn =>
    clear F2 N2 nd2 hm1 hm2 hm5 hpb hzs hit0 d8 d9
    rintro i v h h' t hi hP ⟨st, m', o, o8, o9, Dsk, Dl, sks, zs, mvs, sts, tb, pb, esk, el, em, est, et, ep, M, G, tl, tc, k, v9, hsl, hi3, hst, F, N, ndi, hit, TG, hzs, hsks, hsts, hpb, htb, hM, d8, d9, hk8, f1', f2', f3', hme⟩ hk hst2
    obtain ⟨F, N⟩ := iter_turn F N ndi hk hst2
    obtain ⟨tv, rfl⟩ := hP
    rw [show (0 : Int) + (i : Nat) * 1 = ((i : Nat) : Int) by omega]
    have ok := okS_of hnR (show st.length ≤ 3 by omega) hst
    dsimp only [At]
    walk_at "stms"
    with_reducible rename Fr _ _ _ _ => Fx
    with_reducible rename News _ _ _ _ => Nx
    have hkn := ok.lt k (List.mem_of_getElem? hk8)
    obtain ⟨rk, hrk⟩ : ∃ q, R[k]? = some q := ⟨_, List.getElem?_eq_getElem (show k < R.length by rw [GR.len]; exact hkn)⟩
    have N1 : News g L _ ((Dl, listOf (List.toArray zs) el) :: (Dv, listOf (List.toArray vv) ev) :: (Dn, oN) :: (c4, o4) :: (c8, o8) :: (c9, o9) :: (((I, ({ cls := Value.type "range_iterator", data := Data.fields #[rawInt (0 + ((i + 1 : Nat) : Int) * 1), rawInt (((3 : Nat) : Int) - ((i + 1 : Nat) : Int)), rawInt 1] } : Obj)) :: (Dsk, listOf (List.toArray sks) esk) :: (Dm, listOf (List.toArray mvs) em) :: (Dst, listOf (List.toArray sts) est) :: (x2, instObj 112 dx2) :: (dx2, lexD w.params b1 b2 b3 b4 b5 n2 un f2 l2) :: (l2, listOf (List.toArray tb) et) :: (x, instObj 112 dx) :: (dx, lexD w.params a1 a2 a3 a4 a5 n tn f1 l) :: (l, listOf (List.toArray pb) ep) :: (c3, o3) :: (c6, o6) :: (c7, o7) :: (M ++ rst)) ++ G)) := news_pick (pre := [(I, ({ cls := Value.type "range_iterator", data := Data.fields #[rawInt (0 + ((i + 1 : Nat) : Int) * 1), rawInt (((3 : Nat) : Int) - ((i + 1 : Nat) : Int)), rawInt 1] } : Obj)), (Dsk, listOf (List.toArray sks) esk), (Dl, listOf (List.toArray zs) el), (Dm, listOf (List.toArray mvs) em), (Dst, listOf (List.toArray sts) est), (x2, instObj 112 dx2), (dx2, lexD w.params b1 b2 b3 b4 b5 n2 un f2 l2), (l2, listOf (List.toArray tb) et), (Dn, oN), (x, instObj 112 dx), (dx, lexD w.params a1 a2 a3 a4 a5 n tn f1 l), (l, listOf (List.toArray pb) ep), (Dv, listOf (List.toArray vv) ev), (c3, o3), (c4, o4), (c6, o6), (c7, o7), (c8, o8), (c9, o9)]) (tail := (M ++ rst) ++ G) (is := [2, 12, 8, 14, 17, 18, 0, 1, 3, 4, 5, 6, 7, 9, 10, 11, 13, 15, 16]) Nx
    have nd1 : (Dl :: Dv :: Dn :: c4 :: c8 :: c9 :: ads (((I, ({ cls := Value.type "range_iterator", data := Data.fields #[rawInt (0 + ((i + 1 : Nat) : Int) * 1), rawInt (((3 : Nat) : Int) - ((i + 1 : Nat) : Int)), rawInt 1] } : Obj)) :: (Dsk, listOf (List.toArray sks) esk) :: (Dm, listOf (List.toArray mvs) em) :: (Dst, listOf (List.toArray sts) est) :: (x2, instObj 112 dx2) :: (dx2, lexD w.params b1 b2 b3 b4 b5 n2 un f2 l2) :: (l2, listOf (List.toArray tb) et) :: (x, instObj 112 dx) :: (dx, lexD w.params a1 a2 a3 a4 a5 n tn f1 l) :: (l, listOf (List.toArray pb) ep) :: (c3, o3) :: (c6, o6) :: (c7, o7) :: (M ++ rst)) ++ G)).Nodup := nd_pick (pre := [(I, ({ cls := Value.type "range_iterator", data := Data.fields #[rawInt (0 + ((i + 1 : Nat) : Int) * 1), rawInt (((3 : Nat) : Int) - ((i + 1 : Nat) : Int)), rawInt 1] } : Obj)), (Dsk, listOf (List.toArray sks) esk), (Dl, listOf (List.toArray zs) el), (Dm, listOf (List.toArray mvs) em), (Dst, listOf (List.toArray sts) est), (x2, instObj 112 dx2), (dx2, lexD w.params b1 b2 b3 b4 b5 n2 un f2 l2), (l2, listOf (List.toArray tb) et), (Dn, oN), (x, instObj 112 dx), (dx, lexD w.params a1 a2 a3 a4 a5 n tn f1 l), (l, listOf (List.toArray pb) ep), (Dv, listOf (List.toArray vv) ev), (c3, o3), (c4, o4), (c6, o6), (c7, o7), (c8, o8), (c9, o9)]) (tail := (M ++ rst) ++ G) (is := [2, 12, 8, 14, 17, 18, 0, 1, 3, 4, 5, 6, 7, 9, 10, 11, 13, 15, 16]) ndi (by decide)
    have hs3 : 2 ≤ 2 + (rk.1 + (runS nR st).1.length) % 3 ∧ 2 + (rk.1 + (runS nR st).1.length) % 3 ≤ 4 := by omega
    have hst' : ∀ s ∈ st ++ [2 + (rk.1 + (runS nR st).1.length) % 3], 2 ≤ s ∧ s ≤ 4 := fun s hs => (List.mem_append.mp hs).elim (hst s) fun h => by rw [List.mem_singleton.mp h]; exact hs3
    have ok' := okS_of hnR (show (st ++ [2 + (rk.1 + (runS nR st).1.length) % 3]).length ≤ 3 by rw [List.length_append, List.length_singleton]; omega) hst'
    have hrun := runS_snoc nR st (2 + (rk.1 + (runS nR st).1.length) % 3)
    refine segr1 ⟨rfl, rfl⟩ (s := s) (lf := (runS nR st).1) (k := k) (rl := rk) (Dl := Dl) (Dv := Dv) (Dn := Dn) B r GR hnR TG lo hs hf hzs hvv ok.len hk8 (List.length_pos_iff.mpr ok.ne) hrk d4 d8 d9 Fx N1 nd1 (by rw [← Wd_at hrk]; exact f1') f2' ((hme _ (by decide) (by decide) (by decide) (by decide) (by decide) (by decide) (by decide)).trans hm4) ?_
    intro h3 t3 m3 o9a G3 ts t0 F3 N3 nd3 TG3 d9a g0 hme3
    generalize 2 + (rk.1 + (runS nR st).1.length) % 3 = sN at d9a hs3 hst' ok' hrun
    have N3a : News g L h3 ((Dl, listOf (List.toArray zs) el) :: (Dv, listOf (List.toArray vv) ev) :: (Dn, oN) :: (c4, o4) :: (c8, o8) :: (c9, o9a) :: (I, ({ cls := Value.type "range_iterator", data := Data.fields #[rawInt (0 + ((i + 1 : Nat) : Int) * 1), rawInt (((3 : Nat) : Int) - ((i + 1 : Nat) : Int)), rawInt 1] } : Obj)) :: (Dsk, listOf (List.toArray sks) esk) :: (Dm, listOf (List.toArray mvs) em) :: (Dst, listOf (List.toArray sts) est) :: (x2, instObj 112 dx2) :: (dx2, lexD w.params b1 b2 b3 b4 b5 n2 un f2 l2) :: (l2, listOf (List.toArray tb) et) :: (x, instObj 112 dx) :: (dx, lexD w.params a1 a2 a3 a4 a5 n tn f1 l) :: (l, listOf (List.toArray pb) ep) :: (c3, o3) :: (c6, o6) :: (c7, o7) :: (M ++ rst ++ G3)) := N3
    have nd3a : (Dl :: Dv :: Dn :: c4 :: c8 :: c9 :: I :: Dsk :: Dm :: Dst :: x2 :: dx2 :: l2 :: x :: dx :: l :: c3 :: c6 :: c7 :: ads (M ++ rst ++ G3)).Nodup := nd3
    rw [List.append_assoc M rst G3] at N3a nd3a
    have N4 : News g L h3 ((Dm, listOf (List.toArray mvs) em) :: (x2, instObj 112 dx2) :: (dx2, lexD w.params b1 b2 b3 b4 b5 n2 un f2 l2) :: (l2, listOf (List.toArray tb) et) :: (Dn, oN) :: (x, instObj 112 dx) :: (dx, lexD w.params a1 a2 a3 a4 a5 n tn f1 l) :: (l, listOf (List.toArray pb) ep) :: (c3, o3) :: (c4, o4) :: (c6, o6) :: (c9, o9a) :: (M ++ ((Dl, listOf (List.toArray zs) el) :: (Dv, listOf (List.toArray vv) ev) :: (c8, o8) :: (I, ({ cls := Value.type "range_iterator", data := Data.fields #[rawInt (0 + ((i + 1 : Nat) : Int) * 1), rawInt (((3 : Nat) : Int) - ((i + 1 : Nat) : Int)), rawInt 1] } : Obj)) :: (Dsk, listOf (List.toArray sks) esk) :: (Dst, listOf (List.toArray sts) est) :: (c7, o7) :: (rst ++ G3)))) := news_mid (pre := [(Dm, listOf (List.toArray mvs) em), (x2, instObj 112 dx2), (dx2, lexD w.params b1 b2 b3 b4 b5 n2 un f2 l2), (l2, listOf (List.toArray tb) et), (Dn, oN), (x, instObj 112 dx), (dx, lexD w.params a1 a2 a3 a4 a5 n tn f1 l), (l, listOf (List.toArray pb) ep), (c3, o3), (c4, o4), (c6, o6), (c9, o9a)]) (a := [(Dl, listOf (List.toArray zs) el), (Dv, listOf (List.toArray vv) ev), (c8, o8), (I, ({ cls := Value.type "range_iterator", data := Data.fields #[rawInt (0 + ((i + 1 : Nat) : Int) * 1), rawInt (((3 : Nat) : Int) - ((i + 1 : Nat) : Int)), rawInt 1] } : Obj)), (Dsk, listOf (List.toArray sks) esk), (Dst, listOf (List.toArray sts) est), (c7, o7)]) (b := M) (c := rst ++ G3) (news_pick (pre := [(Dl, listOf (List.toArray zs) el), (Dv, listOf (List.toArray vv) ev), (Dn, oN), (c4, o4), (c8, o8), (c9, o9a), (I, ({ cls := Value.type "range_iterator", data := Data.fields #[rawInt (0 + ((i + 1 : Nat) : Int) * 1), rawInt (((3 : Nat) : Int) - ((i + 1 : Nat) : Int)), rawInt 1] } : Obj)), (Dsk, listOf (List.toArray sks) esk), (Dm, listOf (List.toArray mvs) em), (Dst, listOf (List.toArray sts) est), (x2, instObj 112 dx2), (dx2, lexD w.params b1 b2 b3 b4 b5 n2 un f2 l2), (l2, listOf (List.toArray tb) et), (x, instObj 112 dx), (dx, lexD w.params a1 a2 a3 a4 a5 n tn f1 l), (l, listOf (List.toArray pb) ep), (c3, o3), (c6, o6), (c7, o7)]) (tail := M ++ (rst ++ G3)) (is := [8, 10, 11, 12, 2, 13, 14, 15, 16, 3, 17, 5, 0, 1, 4, 6, 7, 9, 18]) N3a)
    have nd4 : (Dm :: x2 :: dx2 :: l2 :: Dn :: x :: dx :: l :: c3 :: c4 :: c6 :: c9 :: ads (M ++ ((Dl, listOf (List.toArray zs) el) :: (Dv, listOf (List.toArray vv) ev) :: (c8, o8) :: (I, ({ cls := Value.type "range_iterator", data := Data.fields #[rawInt (0 + ((i + 1 : Nat) : Int) * 1), rawInt (((3 : Nat) : Int) - ((i + 1 : Nat) : Int)), rawInt 1] } : Obj)) :: (Dsk, listOf (List.toArray sks) esk) :: (Dst, listOf (List.toArray sts) est) :: (c7, o7) :: (rst ++ G3)))).Nodup := nd_mid (pre := [(Dm, listOf (List.toArray mvs) em), (x2, instObj 112 dx2), (dx2, lexD w.params b1 b2 b3 b4 b5 n2 un f2 l2), (l2, listOf (List.toArray tb) et), (Dn, oN), (x, instObj 112 dx), (dx, lexD w.params a1 a2 a3 a4 a5 n tn f1 l), (l, listOf (List.toArray pb) ep), (c3, o3), (c4, o4), (c6, o6), (c9, o9a)]) (a := [(Dl, listOf (List.toArray zs) el), (Dv, listOf (List.toArray vv) ev), (c8, o8), (I, ({ cls := Value.type "range_iterator", data := Data.fields #[rawInt (0 + ((i + 1 : Nat) : Int) * 1), rawInt (((3 : Nat) : Int) - ((i + 1 : Nat) : Int)), rawInt 1] } : Obj)), (Dsk, listOf (List.toArray sks) esk), (Dst, listOf (List.toArray sts) est), (c7, o7)]) (b := M) (c := rst ++ G3) (nd_pick (pre := [(Dl, listOf (List.toArray zs) el), (Dv, listOf (List.toArray vv) ev), (Dn, oN), (c4, o4), (c8, o8), (c9, o9a), (I, ({ cls := Value.type "range_iterator", data := Data.fields #[rawInt (0 + ((i + 1 : Nat) : Int) * 1), rawInt (((3 : Nat) : Int) - ((i + 1 : Nat) : Int)), rawInt 1] } : Obj)), (Dsk, listOf (List.toArray sks) esk), (Dm, listOf (List.toArray mvs) em), (Dst, listOf (List.toArray sts) est), (x2, instObj 112 dx2), (dx2, lexD w.params b1 b2 b3 b4 b5 n2 un f2 l2), (l2, listOf (List.toArray tb) et), (x, instObj 112 dx), (dx, lexD w.params a1 a2 a3 a4 a5 n tn f1 l), (l, listOf (List.toArray pb) ep), (c3, o3), (c6, o6), (c7, o7)]) (tail := M ++ (rst ++ G3)) (is := [8, 10, 11, 12, 2, 13, 14, 15, 16, 3, 17, 5, 0, 1, 4, 6, 7, 9, 18]) nd3a (by decide))
    clear N1 nd1 Nx N3 nd3 N3a nd3a ndi
    refine segr2 ⟨rfl, rfl⟩ (s := s) (lf := (runS nR st).1) (sk := (runS nR st).2.1) (mk := (runS nR st).2.2.1) (k0 := k) (sN := sN) (tau := i) B r GR hnR lo hs hf ok.len ok.lt ok.slen (by rw [ok.mlen]; have := ok.slen; omega) hs3 hi hpb htb hM d3 d4 d6 d9a F3 N4 nd4 ((hme3 _ (by decide)).trans f1') ((hme3 _ (by decide)).trans f2') ((hme3 _ (by decide)).trans ((hme _ (by decide) (by decide) (by decide) (by decide) (by decide) (by decide) (by decide)).trans hm3)) ((hme3 _ (by decide)).trans rfl) g0 ?_
    intro h5 t5 m5 mvs2 tb2 pb2 em2 et2 ep2 M2 tl2 t02 F5 N5 nd5 hpb2 htb2 hM2 e1 e2 hme5
    have N6 : News g L h5 ((Dsk, listOf (List.toArray sks) esk) :: (Dl, listOf (List.toArray zs) el) :: (Dst, listOf (List.toArray sts) est) :: (c7, o7) :: (c8, o8) :: (c9, o9a) :: ((Dm, listOf (List.toArray mvs2) em2) :: (x2, instObj 112 dx2) :: (dx2, lexD w.params b1 b2 b3 b4 b5 n2 un f2 l2) :: (l2, listOf (List.toArray tb2) et2) :: (Dn, oN) :: (x, instObj 112 dx) :: (dx, lexD w.params a1 a2 a3 a4 a5 n tn f1 l) :: (l, listOf (List.toArray pb2) ep2) :: (c3, o3) :: (c4, o4) :: (c6, o6) :: (Dv, listOf (List.toArray vv) ev) :: (I, ({ cls := Value.type "range_iterator", data := Data.fields #[rawInt (0 + ((i + 1 : Nat) : Int) * 1), rawInt (((3 : Nat) : Int) - ((i + 1 : Nat) : Int)), rawInt 1] } : Obj)) :: (M2 ++ (rst ++ G3)))) := news_pick (pre := [(Dm, listOf (List.toArray mvs2) em2), (x2, instObj 112 dx2), (dx2, lexD w.params b1 b2 b3 b4 b5 n2 un f2 l2), (l2, listOf (List.toArray tb2) et2), (Dn, oN), (x, instObj 112 dx), (dx, lexD w.params a1 a2 a3 a4 a5 n tn f1 l), (l, listOf (List.toArray pb2) ep2), (c3, o3), (c4, o4), (c6, o6), (c9, o9a), (Dl, listOf (List.toArray zs) el), (Dv, listOf (List.toArray vv) ev), (c8, o8), (I, ({ cls := Value.type "range_iterator", data := Data.fields #[rawInt (0 + ((i + 1 : Nat) : Int) * 1), rawInt (((3 : Nat) : Int) - ((i + 1 : Nat) : Int)), rawInt 1] } : Obj)), (Dsk, listOf (List.toArray sks) esk), (Dst, listOf (List.toArray sts) est), (c7, o7)]) (tail := M2 ++ (rst ++ G3)) (is := [16, 12, 17, 18, 14, 11, 0, 1, 2, 3, 4, 5, 6, 7, 8, 9, 10, 13, 15]) (news_mid (pre := [(Dm, listOf (List.toArray mvs2) em2), (x2, instObj 112 dx2), (dx2, lexD w.params b1 b2 b3 b4 b5 n2 un f2 l2), (l2, listOf (List.toArray tb2) et2), (Dn, oN), (x, instObj 112 dx), (dx, lexD w.params a1 a2 a3 a4 a5 n tn f1 l), (l, listOf (List.toArray pb2) ep2), (c3, o3), (c4, o4), (c6, o6), (c9, o9a)]) (a := M2) (b := [(Dl, listOf (List.toArray zs) el), (Dv, listOf (List.toArray vv) ev), (c8, o8), (I, ({ cls := Value.type "range_iterator", data := Data.fields #[rawInt (0 + ((i + 1 : Nat) : Int) * 1), rawInt (((3 : Nat) : Int) - ((i + 1 : Nat) : Int)), rawInt 1] } : Obj)), (Dsk, listOf (List.toArray sks) esk), (Dst, listOf (List.toArray sts) est), (c7, o7)]) (c := rst ++ G3) N5)
    have nd6 : (Dsk :: Dl :: Dst :: c7 :: c8 :: c9 :: ads ((Dm, listOf (List.toArray mvs2) em2) :: (x2, instObj 112 dx2) :: (dx2, lexD w.params b1 b2 b3 b4 b5 n2 un f2 l2) :: (l2, listOf (List.toArray tb2) et2) :: (Dn, oN) :: (x, instObj 112 dx) :: (dx, lexD w.params a1 a2 a3 a4 a5 n tn f1 l) :: (l, listOf (List.toArray pb2) ep2) :: (c3, o3) :: (c4, o4) :: (c6, o6) :: (Dv, listOf (List.toArray vv) ev) :: (I, ({ cls := Value.type "range_iterator", data := Data.fields #[rawInt (0 + ((i + 1 : Nat) : Int) * 1), rawInt (((3 : Nat) : Int) - ((i + 1 : Nat) : Int)), rawInt 1] } : Obj)) :: (M2 ++ (rst ++ G3)))).Nodup := nd_pick (pre := [(Dm, listOf (List.toArray mvs2) em2), (x2, instObj 112 dx2), (dx2, lexD w.params b1 b2 b3 b4 b5 n2 un f2 l2), (l2, listOf (List.toArray tb2) et2), (Dn, oN), (x, instObj 112 dx), (dx, lexD w.params a1 a2 a3 a4 a5 n tn f1 l), (l, listOf (List.toArray pb2) ep2), (c3, o3), (c4, o4), (c6, o6), (c9, o9a), (Dl, listOf (List.toArray zs) el), (Dv, listOf (List.toArray vv) ev), (c8, o8), (I, ({ cls := Value.type "range_iterator", data := Data.fields #[rawInt (0 + ((i + 1 : Nat) : Int) * 1), rawInt (((3 : Nat) : Int) - ((i + 1 : Nat) : Int)), rawInt 1] } : Obj)), (Dsk, listOf (List.toArray sks) esk), (Dst, listOf (List.toArray sts) est), (c7, o7)]) (tail := M2 ++ (rst ++ G3)) (is := [16, 12, 17, 18, 14, 11, 0, 1, 2, 3, 4, 5, 6, 7, 8, 9, 10, 13, 15]) (nd_mid (pre := [(Dm, listOf (List.toArray mvs2) em2), (x2, instObj 112 dx2), (dx2, lexD w.params b1 b2 b3 b4 b5 n2 un f2 l2), (l2, listOf (List.toArray tb2) et2), (Dn, oN), (x, instObj 112 dx), (dx, lexD w.params a1 a2 a3 a4 a5 n tn f1 l), (l, listOf (List.toArray pb2) ep2), (c3, o3), (c4, o4), (c6, o6), (c9, o9a)]) (a := M2) (b := [(Dl, listOf (List.toArray zs) el), (Dv, listOf (List.toArray vv) ev), (c8, o8), (I, ({ cls := Value.type "range_iterator", data := Data.fields #[rawInt (0 + ((i + 1 : Nat) : Int) * 1), rawInt (((3 : Nat) : Int) - ((i + 1 : Nat) : Int)), rawInt 1] } : Obj)), (Dsk, listOf (List.toArray sks) esk), (Dst, listOf (List.toArray sts) est), (c7, o7)]) (c := rst ++ G3) nd5) (by decide)
    clear N4 nd4 N5 nd5
    refine segr3 ⟨rfl, rfl⟩ (s := s) (lf := (runS nR st).1) (sk := (runS nR st).2.1) (st := st) (sN := sN) B r ok.len ok.slen (by omega) hs3 hzs hsks hsts d7 d8 d9a F5 N6 nd6 ((hme5 _ (by decide) (by decide) (by decide) (by decide)).trans ((hme3 _ (by decide)).trans f3')) e2 ?_
    intro h7 t7 m7 Dsk3 Dl3 o8a sks3 zs3 esk3 el3 ts7 F7 N7 nd7 hsks3 hzs3 d8a e3 e4 hme7
    have N8 : News g L h7 ((I, ({ cls := Value.type "range_iterator", data := Data.fields #[rawInt (0 + ((i + 1 : Nat) : Int) * 1), rawInt (((3 : Nat) : Int) - ((i + 1 : Nat) : Int)), rawInt 1] } : Obj)) :: (Dsk3, listOf (List.toArray sks3) esk3) :: (Dl3, listOf (List.toArray zs3) el3) :: (Dm, listOf (List.toArray mvs2) em2) :: (Dst, listOf (List.toArray (sts ++ [Value.int (sN : Nat) ts7])) (est + 1)) :: (x2, instObj 112 dx2) :: (dx2, lexD w.params b1 b2 b3 b4 b5 n2 un f2 l2) :: (l2, listOf (List.toArray tb2) et2) :: (Dn, oN) :: (x, instObj 112 dx) :: (dx, lexD w.params a1 a2 a3 a4 a5 n tn f1 l) :: (l, listOf (List.toArray pb2) ep2) :: (Dv, listOf (List.toArray vv) ev) :: (c3, o3) :: (c4, o4) :: (c6, o6) :: (c7, o7) :: (c8, o8a) :: (c9, o9a) :: (M2 ++ (rst ++ G3))) := news_pick (pre := [(Dl3, listOf (List.toArray zs3) el3), (Dsk3, listOf (List.toArray sks3) esk3), (Dst, listOf (List.toArray (sts ++ [Value.int (sN : Nat) ts7])) (est + 1)), (c7, o7), (c8, o8a), (c9, o9a), (Dm, listOf (List.toArray mvs2) em2), (x2, instObj 112 dx2), (dx2, lexD w.params b1 b2 b3 b4 b5 n2 un f2 l2), (l2, listOf (List.toArray tb2) et2), (Dn, oN), (x, instObj 112 dx), (dx, lexD w.params a1 a2 a3 a4 a5 n tn f1 l), (l, listOf (List.toArray pb2) ep2), (c3, o3), (c4, o4), (c6, o6), (Dv, listOf (List.toArray vv) ev), (I, ({ cls := Value.type "range_iterator", data := Data.fields #[rawInt (0 + ((i + 1 : Nat) : Int) * 1), rawInt (((3 : Nat) : Int) - ((i + 1 : Nat) : Int)), rawInt 1] } : Obj))]) (tail := M2 ++ (rst ++ G3)) (is := [18, 1, 0, 6, 2, 7, 8, 9, 10, 11, 12, 13, 17, 14, 15, 16, 3, 4, 5]) N7
    have nd8 : (I :: Dsk3 :: Dl3 :: Dm :: Dst :: x2 :: dx2 :: l2 :: Dn :: x :: dx :: l :: Dv :: c3 :: c4 :: c6 :: c7 :: c8 :: c9 :: ads (M2 ++ (rst ++ G3))).Nodup := nd_pick (pre := [(Dl3, listOf (List.toArray zs3) el3), (Dsk3, listOf (List.toArray sks3) esk3), (Dst, listOf (List.toArray (sts ++ [Value.int (sN : Nat) ts7])) (est + 1)), (c7, o7), (c8, o8a), (c9, o9a), (Dm, listOf (List.toArray mvs2) em2), (x2, instObj 112 dx2), (dx2, lexD w.params b1 b2 b3 b4 b5 n2 un f2 l2), (l2, listOf (List.toArray tb2) et2), (Dn, oN), (x, instObj 112 dx), (dx, lexD w.params a1 a2 a3 a4 a5 n tn f1 l), (l, listOf (List.toArray pb2) ep2), (c3, o3), (c4, o4), (c6, o6), (Dv, listOf (List.toArray vv) ev), (I, ({ cls := Value.type "range_iterator", data := Data.fields #[rawInt (0 + ((i + 1 : Nat) : Int) * 1), rawInt (((3 : Nat) : Int) - ((i + 1 : Nat) : Int)), rawInt 1] } : Obj))]) (tail := M2 ++ (rst ++ G3)) (is := [18, 1, 0, 6, 2, 7, 8, 9, 10, 11, 12, 13, 17, 14, 15, 16, 3, 4, 5]) nd7 (by decide)
    rw [← List.append_assoc M2 rst G3] at N8 nd8
    clear N6 nd6 N7 nd7
    have r1 : (runS nR (st ++ [sN])).1 = pickK sN (runS nR st).1 (runS nR st).1.length := by rw [hrun]; rfl
    have r2 : (runS nR (st ++ [sN])).2.1 = (runS nR st).2.1 ++ pickS sN (runS nR st).1 (runS nR st).1.length := by rw [hrun]; rfl
    have r3 : (runS nR (st ++ [sN])).2.2.1 = (runS nR st).2.2.1 ++ (placesS sN (runS nR st).1.length).map fun p => (i, p) := by rw [hrun, ← hsl, ← ok.tau]; rfl
    rw [← r1] at hzs3 hpb2 e1 e2 e3
    rw [← r2] at hsks3 htb2
    rw [← r3] at hM2
    (show wpAny _ _ (execs [] _) _ _ _)
    refine wpAny_execs_nil ?_
    dsimp only
    refine' ⟨_, _, rfl, st ++ [sN], m7, _, o8a, o9a, Dsk3, Dl3, sks3, zs3, mvs2, sts ++ [Value.int (sN : Nat) ts7], tb2, pb2, esk3, el3, em2, est + 1, et2, ep2, M2, G3, tl2, t02, _, _, ?q0, ?q1, hst', F7, N8, nd8, ?q2, TG3, hzs3, hsks3, ?q3, hpb2, htb2, hM2, d8a, d9a, last_at ok'.ne k, ?q4, e3, e4, ?q5⟩
    case q0 => rw [List.length_append, hsl]; rfl
    case q1 => omega
    case q2 => exact (N8 _ (.head _)).1
    case q3 => rw [List.map_append]; exact ints_app hsts (IntsAre.cons _ _ IntsAre.nil)
    case q4 => exact (hme7 _ (by decide) (by decide)).trans e1
    case q5 =>
      intro y h1 h2 h3 h4 h5 h6 h7
      exact (hme7 y h6 h7).trans ((hme5 y h2 h3 h4 h5).trans ((hme3 y h5).trans ((if_neg h1).trans (hme y h1 h2 h3 h4 h5 h6 h7))))
  case fin =>
    rintro h h' t ⟨st, m', o, o8, o9, Dsk, Dl, sks, zs, mvs, sts, tb, pb, esk, el, em, est, et, ep, M, G, tl, tc, k, v9, hsl, hi3, hst, F, N, ndi, hit, TG, hzs, hsks, hsts, hpb, htb, hM, d8, d9, hk8, f1', f2', f3', hme⟩ hk
    obtain ⟨F, N⟩ := iter_end F N ndi hk
    clear F2 N2 nd2
    dsimp only [At]
    walk_at "stms"
    exact hQ _ _ m' o8 Dsk Dl sks zs mvs sts tb pb esk el em est et ep M G tc st _ hsl hst F (fun p hp => N p (by revert hp; exact fun hp => hp)) (ndt ndi) TG hzs hsks hsts hpb htb hM d8 f2' f3' hme
end
section
example : True := by w_top off; trivial
def Post7 (w : World) (d : Nat) (fs : Option (List Env)) (gd : Option (List Code)) (u : Nat) (Q : Flow → Shared → Prop) (s : Shared) (g h : Heap) (t : Nat) (L c1 c2 c3 c4 c5 c6 c7 c8 c9 c10 Dsk Dl Ds Dw x2 dx2 l2 f2 x dx l f1 : Addr) (a1 a2 a3 a4 a5 tn b1 b2 b3 b4 b5 un tu tc : Tok) (n n2 : Int) (o2 o3 o6 o8 : Obj) (m : Str → Option Value) (rst : List (Addr × Obj)) (R : List Row) (nR : Nat) (sks zs tb pb us wv : List Value) (esk el et ep eu ew : Nat) (lf sk : List Nat) : Prop :=
  ∀ (h : Heap) (t : Nat) (m' : Str → Option Value) (Dg D : Addr) (gs ys qt : List Value) (eg e4 et e : Nat), StrsAre ys (lf.map (Wd R)) → StrsAre gs (sk.map (Wd R)) → Fr g L h m' → News g L h ((Dg, listOf (List.toArray gs) eg) :: (D, listOf (List.toArray ys) e4) :: (Dsk, listOf (List.toArray sks) esk) :: (Dl, listOf (List.toArray zs) el) :: (x2, instObj 112 dx2) :: (dx2, lexD w.params b1 b2 b3 b4 b5 n2 un f2 l2) :: (l2, listOf (List.toArray qt) et) :: (x, instObj 112 dx) :: (dx, lexD w.params a1 a2 a3 a4 a5 n tn f1 l) :: (l, listOf #[] e) :: (Ds, listOf (List.toArray us) eu) :: (Dw, listOf (List.toArray wv) ew) :: (c2, o2) :: (c3, o3) :: (c6, o6) :: (c8, o8) :: rst) → (Dg :: D :: Dsk :: Dl :: x2 :: dx2 :: l2 :: x :: dx :: l :: Ds :: Dw :: c2 :: c3 :: c6 :: c8 :: ads rst).Nodup → m' "rest" = some (.ref D) → m' "gone" = some (.ref Dg) → (∀ y : Str, y ≠ "rest" → y ≠ "gone" → m' y = m y) →
    wpAny (model P0 w) ⟨none, d, fs, gd, u⟩ (execs ((lawBody w.params).drop 29) (lawEnv w.params L c1 c2 c3 c4 c5 c6 c7 c8 c9 c10)) Q (fun _ _ => False) (At s h t)
theorem seg7 (hK : PySem.Challenge.rw_pg0241_01 = PySem.Challenge.rw_pg0241_01 ∧ heapK = heapK) {w : World} {d : Nat} {fs : Option (List Env)} {gd : Option (List Code)} {u : Nat} {Q : Flow → Shared → Prop} {s : Shared} {g h : Heap} {t : Nat} {L c1 c2 c3 c4 c5 c6 c7 c8 c9 c10 Dsk Dl Ds Dw x2 dx2 l2 f2 x dx l f1 : Addr} {a1 a2 a3 a4 a5 tn b1 b2 b3 b4 b5 un tu tc : Tok} {n n2 : Int} {o2 o3 o6 o8 : Obj} {m : Str → Option Value} {rst : List (Addr × Obj)} {R : List Row} {nR : Nat} {sks zs tb pb us wv : List Value} {esk el et ep eu ew : Nat} {lf sk : List Nat}
  (B : Bs w g) (r : Rm ⟨none, d, fs, gd, u⟩ 80) (GR : GoodR R nR) (hnR : 6 ≤ nR ∧ nR ≤ 11) (hlf : lf.length ≤ 11) (hlt : ∀ k ∈ lf, k < nR) (hsk : sk.length ≤ 11) (hslt : ∀ k ∈ sk, k < nR) (hus : us.length ≤ 101)
  (hzs : IntsAre zs (lf.map (Nat.cast : Nat → Int))) (hsks : IntsAre sks (sk.map (Nat.cast : Nat → Int))) (hpb : StrsAre pb (lf.map (Wd R))) (htb : StrsAre tb (sk.map (Wd R))) (hwv : StrsAre wv (R.map fun r => strOf (wordOf r.1)))
  (d2 : o2.data = .cell (some (.ref Dw))) (d3 : o3.data = .cell (some (.ref x))) (d6 : o6.data = .cell (some (.ref x2))) (d8 : o8.data = .cell (some (.ref Dl)))
  (F : Fr g L h m) (N : News g L h ((Dsk, listOf (List.toArray sks) esk) :: (Dl, listOf (List.toArray zs) el) :: (x2, instObj 112 dx2) :: (dx2, lexD w.params b1 b2 b3 b4 b5 n2 un f2 l2) :: (l2, listOf (List.toArray tb) et) :: (x, instObj 112 dx) :: (dx, lexD w.params a1 a2 a3 a4 a5 n tn f1 l) :: (l, listOf (List.toArray pb) ep) :: (Ds, listOf (List.toArray us) eu) :: (Dw, listOf (List.toArray wv) ew) :: (c2, o2) :: (c3, o3) :: (c6, o6) :: (c8, o8) :: rst)) (nd : (Dsk :: Dl :: x2 :: dx2 :: l2 :: x :: dx :: l :: Ds :: Dw :: c2 :: c3 :: c6 :: c8 :: ads rst).Nodup)
  (hm1 : m "signs" = some (.ref Ds)) (hm2 : m "unread" = some (.int (us.toArray.size : Nat) tu)) (hm3 : m "count" = some (.int (lf.length : Nat) tc)) (hm4 : m "struck" = some (.ref Dsk))
  (hQ : Post7 w d fs gd u Q s g h t L c1 c2 c3 c4 c5 c6 c7 c8 c9 c10 Dsk Dl Ds Dw x2 dx2 l2 f2 x dx l f1 a1 a2 a3 a4 a5 tn b1 b2 b3 b4 b5 un tu tc n n2 o2 o3 o6 o8 m rst R nR sks zs tb pb us wv esk el et ep eu ew lf sk) :
  wpAny (model P0 w) ⟨none, d, fs, gd, u⟩ (execs ((lawBody w.params).drop 25) (lawEnv w.params L c1 c2 c3 c4 c5 c6 c7 c8 c9 c10)) Q (fun _ _ => False) (At s h t) := by
  revert hK; k_fill; intro hK; clear hK
  obtain ⟨p, loose, mean, mg, mb, T⟩ := B.T
  have X := B.X
  have hul : us.toArray.size ≤ 101 := by rw [List.size_toArray]; exact hus
  have hzl : zs.toArray.size = lf.length := by rw [List.size_toArray, hzs.length, List.length_map]
  have hskl : sks.toArray.size = sk.length := by rw [List.size_toArray, hsks.length, List.length_map]
  have hpl : pb.length = lf.length := by rw [StrsAre.len hpb, List.length_map]
  have htl : tb.length = sk.length := by rw [StrsAre.len htb, List.length_map]
  dsimp only [At]
  (rw [show (lawBody w.params).drop 25 = stm w.params 25 :: (lawBody w.params).drop 26 from rfl]; conv in (stm w.params 25) => whnf)
  walk_at "stms"
  refine len_list (News.isList (a := Ds) (items := us.toArray) (n := eu) N (by k_mem)) (by omega) ?_
  walk_at "stms"
  all_goals try (exfalso; (with_reducible rename (_ ≠ _) => hbad); exact hbad rfl)
  dsimp only
  (rw [show (lawBody w.params).drop 26 = stm w.params 26 :: (lawBody w.params).drop 27 from rfl]; conv in (stm w.params 26) => whnf)
  walk_at "stms"
  refine compU (cl := [("reader", c3)]) (by with_unfolding_all rfl) (by rfl) (by decide) rfl (by decide) (by decide) (by rfl) (by rfl) ?_
  walk_at "stms"
  refine iterList F N (News.isList N (.tail _ (.head _))) (fun I h2i o0 F2 N2 lI hit0 hl0 hDI => ?_)
  have nd2 := nd_cons nd rfl lI
  refine compG_list (L := L) rfl rfl B F2 N2 nd2 hit0 (D0 := Dl) (items := zs.toArray) (e0 := el) (.tail _ (.head _))
    (fun i ys G => Ex2 fun (qs : List Value) (e : Nat) => And4 (i ≤ lf.length) (StrsAre qs ((lf.drop i).map (Wd R))) (StrsAre ys ((lf.take i).map (Wd R))) (G = ((Dsk, listOf (List.toArray sks) esk) :: (Dl, listOf (List.toArray zs) el) :: (x2, instObj 112 dx2) :: (dx2, lexD w.params b1 b2 b3 b4 b5 n2 un f2 l2) :: (l2, listOf (List.toArray tb) et) :: (x, instObj 112 dx) :: (dx, lexD w.params a1 a2 a3 a4 a5 n tn f1 l) :: (l, listOf (List.toArray qs) e) :: (Ds, listOf (List.toArray us) eu) :: (Dw, listOf (List.toArray wv) ew) :: (c2, o2) :: (c3, o3) :: (c6, o6) :: (c8, o8) :: rst))) ?J0 ?Jl ?JG ?turn ?fin
  case J0 => exact ⟨pb, ep, Nat.zero_le _, hpb, StrsAre.nil, rfl⟩
  case Jl =>
    rintro i ys G ⟨qs, e, hi, h1, h2, h3⟩
    rw [StrsAre.len h2, List.length_map, List.length_take]; omega
  case JG =>
    rintro i ys G ⟨qs, e, hi, h1, h2, rfl⟩
    exact .tail _ (.head _)
  case turn =>
    rintro g₂ C D i v ys G o' e3 h t m' gg₂ B₂ hi hP ⟨qs, e, hil, h1, h2, rfl⟩ F3 N3 nd3
    clear F2 N2
    rw [hzl] at hi
    obtain ⟨k, hk⟩ : ∃ q, lf[i]? = some q := ⟨_, List.getElem?_eq_getElem hi⟩
    have hdrop : lf.drop i = k :: lf.drop (i + 1) := by
      obtain ⟨hi, he⟩ := List.getElem?_eq_some_iff.mp hk
      rw [← he]; exact List.drop_eq_getElem_cons hi
    rw [hdrop, List.map_cons] at h1
    obtain ⟨ty, us2, rfl, hus2⟩ := strs_cons' h1
    have hul2 : us2.length ≤ 11 := by rw [StrsAre.len hus2, List.length_map, List.length_drop]; omega
    refine wpAny_tests_nil ?_
    rw [if_pos rfl]
    obtain ⟨p₂, loose₂, mean₂, mg₂, mb₂, T₂⟩ := B₂.T
    have X₂ := B₂.X
    walk_at "stms"
    refine wpAny_call (get_back_ok ⟨rfl, rfl⟩ (x := x) (dx := dx) (l := l) (us := us2) B₂ F3.keep (r.less (by omega)) (own_of_news N3 fun p hp => (.tail _ (.tail _ (.tail _ (.tail _ (.tail _ (.tail _ (.tail _ (List.mem_append_left _ hp))))))))) (List.Nodup.sublist (List.sublist_append_left [x, dx, l] _) (ndt (ndt (ndt (ndt (ndt (ndt (ndt nd3)))))))) (by omega) (fun h5 t5 e5 k5 O5 => ?_))
    obtain ⟨F5, N5⟩ := after_put [9] F3 N3 nd3 rfl rfl k5 O5 rfl rfl
    show TurnEnd _ _ _ _ _ _ _ _ _ _
    refine ⟨_, _, _, _, rfl, F5, N5, nd3, us2, e5, hi, hus2, ?_, rfl⟩
    rw [take_snoc' hk, List.map_append]
    exact StrsAre.snoc h2
  case fin =>
    rintro D ys G e4 h t ⟨qs, e, hil, h1r, h2, rfl⟩ F3 N3 nd3 h' t' F4 N4
    clear F2 N2 F3 N3
    rw [hzl, List.take_length] at h2
    dsimp only [At]
    have g4 : (fun z : Str => if z = "rest" then some (Value.ref D) else m z) "struck" = some (.ref Dsk) := hm4
    (rw [show (lawBody w.params).drop 27 = stm w.params 27 :: (lawBody w.params).drop 28 from rfl]; conv in (stm w.params 27) => whnf)
    walk_at "stms"
    refine compU (cl := [("taken", c6)]) (by with_unfolding_all rfl) (by rfl) (by decide) rfl (by decide) (by decide) (by rfl) (by rfl) ?_
    walk_at "stms"
    refine iterList F4 N4 (News.isList N4 (.tail _ (.head _))) (fun I h2i o0 F2 N2 lI hit0 hl0 hDI => ?_)
    have nd2 := nd_cons nd3 rfl lI
    refine compG_list (L := L) rfl rfl B F2 N2 nd2 hit0 (D0 := Dsk) (items := sks.toArray) (e0 := esk) (.tail _ (.head _))
      (fun i gs G => Ex2 fun (qt : List Value) (et : Nat) => And4 (i ≤ sk.length) (StrsAre qt ((sk.drop i).map (Wd R))) (StrsAre gs ((sk.take i).map (Wd R))) (G = ((D, listOf (List.toArray ys) e4) :: (Dsk, listOf (List.toArray sks) esk) :: (Dl, listOf (List.toArray zs) el) :: (x2, instObj 112 dx2) :: (dx2, lexD w.params b1 b2 b3 b4 b5 n2 un f2 l2) :: (l2, listOf (List.toArray qt) et) :: (x, instObj 112 dx) :: (dx, lexD w.params a1 a2 a3 a4 a5 n tn f1 l) :: (l, listOf (List.toArray qs) e) :: (Ds, listOf (List.toArray us) eu) :: (Dw, listOf (List.toArray wv) ew) :: (c2, o2) :: (c3, o3) :: (c6, o6) :: (c8, o8) :: rst))) ?J0 ?Jl ?JG ?turn2 ?fin2
    case J0 => exact ⟨tb, et, Nat.zero_le _, htb, StrsAre.nil, rfl⟩
    case Jl =>
      rintro i ys G ⟨qs, e, hi, h1, h2, h3⟩
      rw [StrsAre.len h2, List.length_map, List.length_take]; omega
    case JG =>
      rintro i ys G ⟨qs, e, hi, h1, h2, rfl⟩
      exact .tail _ (.head _)
    case turn2 =>
      rintro g₂ C D6 i v gs G o' e3 h t m' gg₂ B₂ hi hP ⟨qt, et, hil, h1, h2, rfl⟩ F3 N3 nd3
      clear F2 N2
      rw [hskl] at hi
      obtain ⟨k, hk⟩ : ∃ q, sk[i]? = some q := ⟨_, List.getElem?_eq_getElem hi⟩
      have hdrop : sk.drop i = k :: sk.drop (i + 1) := by
        obtain ⟨hi, he⟩ := List.getElem?_eq_some_iff.mp hk
        rw [← he]; exact List.drop_eq_getElem_cons hi
      rw [hdrop, List.map_cons] at h1
      obtain ⟨ty, us2, rfl, hus2⟩ := strs_cons' h1
      have hul2 : us2.length ≤ 11 := by rw [StrsAre.len hus2, List.length_map, List.length_drop]; omega
      refine wpAny_tests_nil ?_
      rw [if_pos rfl]
      obtain ⟨p₂, loose₂, mean₂, mg₂, mb₂, T₂⟩ := B₂.T
      have X₂ := B₂.X
      walk_at "stms"
      refine wpAny_call (get_back_ok ⟨rfl, rfl⟩ (x := x2) (dx := dx2) (l := l2) (us := us2) B₂ F3.keep (r.less (by omega)) (own_of_news N3 fun p hp => (.tail _ (.tail _ (.tail _ (.tail _ (.tail _ (List.mem_append_left _ hp))))))) (List.Nodup.sublist (List.sublist_append_left [x2, dx2, l2] _) (ndt (ndt (ndt (ndt (ndt nd3)))))) (by omega) (fun h5 t5 e5 k5 O5 => ?_))
      obtain ⟨F5, N5⟩ := after_put [7] F3 N3 nd3 rfl rfl k5 O5 rfl rfl
      show TurnEnd _ _ _ _ _ _ _ _ _ _
      refine ⟨_, _, _, _, rfl, F5, N5, nd3, us2, e5, hi, hus2, ?_, rfl⟩
      rw [take_snoc' hk, List.map_append]
      exact StrsAre.snoc h2
    case fin2 =>
      rintro Dg gs G eg h t ⟨qt, et, hil, h1, h2g, rfl⟩ F3 N3 nd3 h' t' F5 N5
      clear F2 N2 F3 N3
      rw [hskl, List.take_length] at h2g
      dsimp only [At]
      have g5 : (fun z : Str => if z = "gone" then some (Value.ref Dg) else (fun z : Str => if z = "rest" then some (Value.ref D) else m z) z) "struck" = some (.ref Dsk) := hm4
      (rw [show (lawBody w.params).drop 28 = stm w.params 28 :: (lawBody w.params).drop 29 from rfl]; conv in (stm w.params 28) => whnf)
      walk_at "stms"
      refine compE (cl := [("words", c2)]) (by rfl) (by decide) rfl (by decide) (by decide) ?_
      walk_at "stms"
      with_reducible rename Fr _ _ _ _ => Fv
      refine iterList Fv N5 (News.isList (a := Dl) (items := (List.toArray zs)) (n := el) N5 (by k_mem)) (fun I h2i o0 F2 N2 lI hit0 hl0 hDI => ?_)
      have nd2 := nd_cons nd3 rfl lI
      refine compG_list (L := L) rfl rfl B F2 N2 nd2 hit0 (D0 := Dl) (items := (List.toArray zs)) (e0 := el) (by k_mem)
        (fun i xs G => i ≤ lf.length ∧ StrsAre xs ((lf.take i).map (Wd R)) ∧ G = ((Dg, listOf (List.toArray gs) eg) :: (D, listOf (List.toArray ys) e4) :: (Dsk, listOf (List.toArray sks) esk) :: (Dl, listOf (List.toArray zs) el) :: (x2, instObj 112 dx2) :: (dx2, lexD w.params b1 b2 b3 b4 b5 n2 un f2 l2) :: (l2, listOf (List.toArray qt) et) :: (x, instObj 112 dx) :: (dx, lexD w.params a1 a2 a3 a4 a5 n tn f1 l) :: (l, listOf (List.toArray qs) e) :: (Ds, listOf (List.toArray us) eu) :: (Dw, listOf (List.toArray wv) ew) :: (c2, o2) :: (c3, o3) :: (c6, o6) :: (c8, o8) :: rst)) ?J0 ?Jl ?JG ?t3 ?f3
      case J0 => exact ⟨Nat.zero_le _, StrsAre.nil, rfl⟩
      case Jl =>
        rintro i ys G ⟨hi, h2, h3⟩
        rw [StrsAre.len h2, List.length_map, List.length_take]; omega
      case JG =>
        rintro i ys G ⟨hi, h2, rfl⟩
        k_mem
      case t3 =>
        rintro g₂ C D6 i v xs G o' e3 h t m' gg₂ B₂ hi hP ⟨hil, h2, rfl⟩ F3 N3 nd3
        clear F2 N2
        rw [hzl] at hi
        obtain ⟨k, tk, hk, rfl⟩ := ints_nat_at hzs (j := i) (by simpa using hP)
        have hkn := hlt k (List.mem_of_getElem? hk)
        obtain ⟨rk, hrk⟩ : ∃ q, R[k]? = some q := ⟨_, List.getElem?_eq_getElem (show k < R.length by rw [GR.len]; exact hkn)⟩
        obtain ⟨vw, hvw⟩ : ∃ q, wv[k]? = some q := ⟨_, List.getElem?_eq_getElem (show k < wv.length by rw [StrsAre.len hwv, List.length_map, GR.len]; exact hkn)⟩
        obtain ⟨yw, tyw, hyw, rfl⟩ := strs_at hwv hvw
        obtain ⟨rk2, hrk2, rfl⟩ := row_at hyw
        have hWk := Wd_at hrk2
        refine wpAny_tests_nil ?_
        rw [if_pos rfl]
        walk_at "stms"
        refine item_list (News.isList (a := Dw) (items := wv.toArray) (n := ew) N3 (by k_mem)) (by omega) (by omega) (show wv.toArray[((k : Nat) : Int).toNat]? = some (.str (strOf (wordOf rk2.1)) tyw) by simpa using hvw) ?_
        show TurnEnd _ _ _ _ _ _ _ _ _ _
        refine ⟨_, _, _, _, rfl, F3, N3, nd3, hi, ?_, rfl⟩
        rw [take_snoc' hk, List.map_append, List.map_singleton, hWk]
        exact StrsAre.snoc h2
      case f3 =>
        rintro Dy xs G ey h t ⟨hil, hxs, rfl⟩ F7 N7 nd7
        clear F2 N2
        rw [hzl, List.take_length] at hxs
        dsimp only [At]
        walk_at "stms"
        have hwok : ∀ (l : List Nat), ∀ z ∈ l.map (Wd R), PyData.strOk z = true := by
          intro l z hz
          obtain ⟨q, _, rfl⟩ := List.mem_map.mp hz
          exact word_ok _
        refine kt_ne (News.isList (a := D) (items := ys.toArray) (n := e4) N7 (by k_mem)) (News.isList (a := Dy) (items := xs.toArray) (n := ey) N7 (.head _)) h2 hxs (hwok _) (hwok _) (Rm.u64 r) ?_
        rw [decide_eq_true rfl]
        walk_at "stms"
        refine compE (cl := [("words", c2)]) (by rfl) (by decide) rfl (by decide) (by decide) ?_
        walk_at "stms"
        with_reducible rename Fr _ _ _ _ => Fv2
        with_reducible rename News _ _ _ _ => Nv2
        refine iterList Fv2 Nv2 (News.isList (a := Dsk) (items := (List.toArray sks)) (n := esk) Nv2 (by k_mem)) (fun I2 h2i o2i F2b N2b lI hit0 hl0 hDI => ?_)
        have nd2b := nd_cons nd7 rfl lI
        refine compG_list (L := L) rfl rfl B F2b N2b nd2b hit0 (D0 := Dsk) (items := (List.toArray sks)) (e0 := esk) (by k_mem)
          (fun i xt G => i ≤ sk.length ∧ StrsAre xt ((sk.take i).map (Wd R)) ∧ G = ((Dy, listOf (List.toArray xs) ey) :: (Dg, listOf (List.toArray gs) eg) :: (D, listOf (List.toArray ys) e4) :: (Dsk, listOf (List.toArray sks) esk) :: (Dl, listOf (List.toArray zs) el) :: (x2, instObj 112 dx2) :: (dx2, lexD w.params b1 b2 b3 b4 b5 n2 un f2 l2) :: (l2, listOf (List.toArray qt) et) :: (x, instObj 112 dx) :: (dx, lexD w.params a1 a2 a3 a4 a5 n tn f1 l) :: (l, listOf (List.toArray qs) e) :: (Ds, listOf (List.toArray us) eu) :: (Dw, listOf (List.toArray wv) ew) :: (c2, o2) :: (c3, o3) :: (c6, o6) :: (c8, o8) :: rst)) ?J0 ?Jl ?JG ?t4 ?f4
        case J0 => exact ⟨Nat.zero_le _, StrsAre.nil, rfl⟩
        case Jl =>
          rintro i ys G ⟨hi, h2, h3⟩
          rw [StrsAre.len h2, List.length_map, List.length_take]; omega
        case JG =>
          rintro i ys G ⟨hi, h2, rfl⟩
          k_mem
        case t4 =>
          rintro g₂ C D6 i v xt G o' e3 h t m' gg₂ B₂ hi hP ⟨hil, h2t, rfl⟩ F3 N3 nd3
          clear F2b N2b
          rw [hskl] at hi
          obtain ⟨k, tk, hk, rfl⟩ := ints_nat_at hsks (j := i) (by simpa using hP)
          have hkn := hslt k (List.mem_of_getElem? hk)
          obtain ⟨rk, hrk⟩ : ∃ q, R[k]? = some q := ⟨_, List.getElem?_eq_getElem (show k < R.length by rw [GR.len]; exact hkn)⟩
          obtain ⟨vw, hvw⟩ : ∃ q, wv[k]? = some q := ⟨_, List.getElem?_eq_getElem (show k < wv.length by rw [StrsAre.len hwv, List.length_map, GR.len]; exact hkn)⟩
          obtain ⟨yw, tyw, hyw, rfl⟩ := strs_at hwv hvw
          obtain ⟨rk2, hrk2, rfl⟩ := row_at hyw
          have hWk := Wd_at hrk2
          refine wpAny_tests_nil ?_
          rw [if_pos rfl]
          walk_at "stms"
          refine item_list (News.isList (a := Dw) (items := wv.toArray) (n := ew) N3 (by k_mem)) (by omega) (by omega) (show wv.toArray[((k : Nat) : Int).toNat]? = some (.str (strOf (wordOf rk2.1)) tyw) by simpa using hvw) ?_
          show TurnEnd _ _ _ _ _ _ _ _ _ _
          refine ⟨_, _, _, _, rfl, F3, N3, nd3, hi, ?_, rfl⟩
          rw [take_snoc' hk, List.map_append, List.map_singleton, hWk]
          exact StrsAre.snoc h2t
        case f4 =>
          rintro Dz xt G ez h t ⟨hil, hxt, rfl⟩ F9 N9 nd9
          clear F2b N2b
          rw [hskl, List.take_length] at hxt
          dsimp only [At]
          walk_at "stms"
          refine kt_ne (News.isList (a := Dg) (items := gs.toArray) (n := eg) N9 (by k_mem)) (News.isList (a := Dz) (items := xt.toArray) (n := ez) N9 (.head _)) h2g hxt (hwok _) (hwok _) (Rm.u64 r) ?_
          rw [decide_eq_true rfl]
          walk_at "stms"
          have hq0 : qs = [] := by
            rw [hzl, List.drop_length] at h1r
            cases h1r; rfl
          subst hq0
          refine hQ _ _ _ Dg D gs ys qt eg e4 et e h2 h2g F9 (news_sub N9 (List.Sublist.cons _ (List.Sublist.cons _ (List.Sublist.refl _)))) (ndt (ndt nd9)) rfl rfl ?_
          intro y h1 h2
          exact (if_neg h2).trans (if_neg h1)
end
section
example : True := by w_top off; trivial
def Post8 (w : World) (d : Nat) (fs : Option (List Env)) (gd : Option (List Code)) (u : Nat) (Q : Flow → Shared → Prop) (s : Shared) (g h : Heap) (t : Nat) (L c1 c2 c3 c4 c5 c6 c7 c8 c9 c10 D Dm : Addr) (m : Str → Option Value) (rst M : List (Addr × Obj)) (ys mvs : List Value) (ed em ln : Nat) (mk : List (Nat × Nat)) : Prop :=
  ∀ (h : Heap) (t : Nat) (m' : Str → Option Value) (mvs : List Value) (em : Nat) (M : List (Addr × Obj)), Fr g L h m' → News g L h ((D, listOf ys.toArray ed) :: (Dm, listOf mvs.toArray em) :: (M ++ rst)) → (D :: Dm :: ads (M ++ rst)).Nodup → MkA mvs M (mk ++ (List.range ln).map fun i => (3, i + 1)) → (∀ y : Str, y ≠ "k" → m' y = m y) →
    wpAny (model P0 w) ⟨none, d, fs, gd, u⟩ (execs ((lawBody w.params).drop 30) (lawEnv w.params L c1 c2 c3 c4 c5 c6 c7 c8 c9 c10)) Q (fun _ _ => False) (At s h t)
abbrev JL12a (g : Heap) (L : Addr) (D : Addr) (Dm : Addr) (m : Str → Option Value) (rst : List (Addr × Obj)) (ys : List Value) (ed : Nat) (ln : Nat) (mk : List (Nat × Nat)) (I : Addr) := fun j h => Ex5 fun (m' : Str → Option Value) (o : Obj) (mvs : List Value) (em : Nat) (M : List (Addr × Obj)) => And6 (Fr g L h m') (News g L h ((I, o) :: (D, listOf ys.toArray ed) :: (Dm, listOf mvs.toArray em) :: (M ++ rst))) ((I :: D :: Dm :: ads (M ++ rst)).Nodup) (IsRangeIter h I (0 + (j : Nat) * 1) ((ln : Int) - (j : Nat)) 1) (MkA mvs M (mk ++ (List.range j).map fun i => (3, i + 1))) (∀ y : Str, y ≠ "k" → m' y = m y)
theorem seg8 (hK : PySem.Challenge.rw_pg0241_01 = PySem.Challenge.rw_pg0241_01 ∧ heapK = heapK) {w : World} {d : Nat} {fs : Option (List Env)} {gd : Option (List Code)} {u : Nat} {Q : Flow → Shared → Prop} {s : Shared} {g h : Heap} {t : Nat} {L c1 c2 c3 c4 c5 c6 c7 c8 c9 c10 D Dm : Addr} {m : Str → Option Value} {rst M : List (Addr × Obj)} {ys mvs : List Value} {ed em ln : Nat} {mk : List (Nat × Nat)}
  (B : Bs w g) (r : Rm ⟨none, d, fs, gd, u⟩ 80) (hln : ys.length = ln) (hl : ln ≤ 11) (hmk : mk.length ≤ 33) (hM : MkA mvs M mk)
  (F : Fr g L h m) (N : News g L h ((D, listOf ys.toArray ed) :: (Dm, listOf mvs.toArray em) :: (M ++ rst))) (nd : (D :: Dm :: ads (M ++ rst)).Nodup)
  (hm1 : m "rest" = some (.ref D)) (hm2 : m "marks" = some (.ref Dm))
  (hQ : Post8 w d fs gd u Q s g h t L c1 c2 c3 c4 c5 c6 c7 c8 c9 c10 D Dm m rst M ys mvs ed em ln mk) :
  wpAny (model P0 w) ⟨none, d, fs, gd, u⟩ (execs ((lawBody w.params).drop 29) (lawEnv w.params L c1 c2 c3 c4 c5 c6 c7 c8 c9 c10)) Q (fun _ _ => False) (At s h t) := by
  revert hK; k_fill; intro hK; clear hK
  obtain ⟨p, loose, mean, mg, mb, T⟩ := B.T
  have X := B.X
  have hys : ys.toArray.size = ln := by rw [List.size_toArray]; exact hln
  dsimp only [At]
  (rw [show (lawBody w.params).drop 29 = stm w.params 29 :: (lawBody w.params).drop 30 from rfl]; conv in (stm w.params 29) => whnf)
  walk_at "stms"
  refine wpAny_For ?_
  walk_at "stms"
  with_reducible rename Fr _ _ _ _ => Fx
  with_reducible rename News _ _ _ _ => Nx
  with_reducible rename IsRange _ _ _ _ _ _ _ _ => hrg
  refine iterRange (n := ln) Fx Nx hrg (by omega) (by decide) (by omega) (fun I h2 o0 F2 N2 l2' hit0 => ?_)
  have nd2 : (I :: D :: Dm :: ads (M ++ rst)).Nodup := nd_cons nd rfl l2'
  clear Fx Nx
  refine forW (Walks.range rfl I 0 1 ln)
    (JL12a g L D Dm m rst ys ed ln mk I)
    ?hJ ?h0 ?turn ?fin ?ht
  case ht => intro _; rfl
  case hJ =>
    rintro j h ⟨m', o, mvs, em, M, F, N, nd, hit, _⟩
    exact hit
  case h0 =>
    refine' ⟨_, o0, mvs, em, M, F2, N2, nd2, ?q1, ?q2, ?q3⟩
    case q1 => simpa using hit0
    case q2 => rw [show mk ++ (List.range 0).map (fun i => (3, i + 1)) = mk from List.append_nil _]; exact hM
    case q3 => intro y _; rfl
  case turn =>
    clear F2 N2 nd2 hM hit0
    rintro j v h h' t hj hP ⟨m', o, mvs, em, M, F, N, ndi, hit, hM, hme⟩ hk hst
    obtain ⟨F, N⟩ := iter_turn F N ndi hk hst
    obtain ⟨tv, rfl⟩ := hP
    rw [show (0 : Int) + (j : Nat) * 1 = ((j : Nat) : Int) by omega]
    have hml : mvs.toArray.size ≤ 44 := by
      rw [List.size_toArray, hM.len, List.length_append, List.length_map, List.length_range]; omega
    have g1 : m' "marks" = some (.ref Dm) := (hme _ (by decide)).trans hm2
    dsimp only [At]
    walk_at "stms"
    with_reducible rename Fr _ _ _ _ => Fz
    with_reducible rename News _ _ _ _ => Nz
    with_reducible rename List.Nodup _ => ndz
    rename_i ta am hA hB
    rw [show mvs.toArray.push (Value.ref am) = (mvs ++ [Value.ref am]).toArray by simp] at Nz
    refine' ⟨_, _, rfl, _, _, mvs ++ [Value.ref am], em + 1, (am, listOf #[.int ((3 : Nat) : Int) _, .int ((j + 1 : Nat) : Int) _] 0) :: M, Fz, news_in (pre := [(I, ({ cls := Value.type "range_iterator", data := Data.fields #[rawInt (0 + ((j + 1 : Nat) : Int) * 1), rawInt ((ln : Int) - ((j + 1 : Nat) : Int)), rawInt 1] } : Obj)), (D, listOf ys.toArray ed), (Dm, listOf (mvs ++ [Value.ref am]).toArray (em + 1))]) (M := M ++ rst) Nz, nd_in (a := (am, listOf #[] 0)) (pre := [(I, ({ cls := Value.type "range_iterator", data := Data.fields #[rawInt (0 + ((j + 1 : Nat) : Int) * 1), rawInt ((ln : Int) - ((j + 1 : Nat) : Int)), rawInt 1] } : Obj)), (D, listOf ys.toArray ed), (Dm, listOf (mvs ++ [Value.ref am]).toArray (em + 1))]) (M := M ++ rst) ndz, ?q1, ?q2, ?q3⟩
    case q1 => exact (Nz _ (.tail _ (.head _))).1
    case q2 => rw [List.range_succ, List.map_append, ← List.append_assoc]; exact MkA.snoc am 3 (j + 1) _ _ 0 hM
    case q3 =>
      intro y h1
      exact (if_neg h1).trans (hme y h1)
  case fin =>
    rintro h h' t ⟨m', o, mvs, em, M, F, N, ndi, hit, hM, hme⟩ hk
    obtain ⟨F, N⟩ := iter_end F N ndi hk
    clear F2 N2 nd2
    dsimp only [At]
    walk_at "stms"
    exact hQ _ _ _ mvs em M F N (ndt ndi) hM hme
end
section
example : True := by w_top off; trivial
theorem whole_mono {R : List Row} {k : Nat} (G : GoodR R k) : ∀ i j, i < j → j < R.length → (R.map fun r => (r.1 : Int)).getD i 0 < (R.map fun r => (r.1 : Int)).getD j 0 := by
  intro i j hij hj
  have P := List.pairwise_iff_getElem.mp G.inc i j (by omega) hj hij
  rw [List.getD_eq_getElem?_getD, List.getD_eq_getElem?_getD, List.getElem?_map, List.getElem?_map, List.getElem?_eq_getElem (show i < R.length by omega), List.getElem?_eq_getElem hj]
  show ((R[i].1 : Nat) : Int) < (R[j].1 : Nat)
  omega
theorem bisect_at {R : List Row} {n k q : Nat} {r : Row} (G : GoodR R n) (hk : R[k]? = some r) (hq : q ≤ (R.map fun r => (r.1 : Int)).length) (h1 : ∀ i, i < q → (R.map fun r => (r.1 : Int)).getD i 0 < (r.1 : Int)) (h2 : ∀ i, q ≤ i → i < (R.map fun r => (r.1 : Int)).length → (r.1 : Int) ≤ (R.map fun r => (r.1 : Int)).getD i 0) : q = k := by
  obtain ⟨hlt, he⟩ := List.getElem?_eq_some_iff.mp hk
  have hv : (R.map fun r => (r.1 : Int)).getD k 0 = (r.1 : Int) := by rw [List.getD_eq_getElem?_getD, List.getElem?_map, hk]; rfl
  have m := whole_mono G
  rw [List.length_map] at hq h2
  rcases Nat.lt_trichotomy q k with h | h | h
  · have a := h2 q (Nat.le_refl _) (by omega)
    have b := m q k h hlt
    rw [hv] at b; omega
  · exact h
  · have a := h1 k h
    rw [hv] at a; omega
def Post9 (w : World) (d : Nat) (fs : Option (List Env)) (gd : Option (List Code)) (u : Nat) (Q : Flow → Shared → Prop) (s : Shared) (g h : Heap) (t : Nat) (L c1 c2 c3 c4 c5 c6 c7 c8 c9 c10 Dg D Dh Dn : Addr) (oN o4 o5 : Obj) (m : Str → Option Value) (rst : List (Addr × Obj)) (R : List Row) (nR : Nat) (kvs : List (Str × Value)) (gs ys ws : List Value) (eg ed eh : Nat) (lf sk : List Nat) : Prop :=
  ∀ (h : Heap) (t : Nat) (m' : Str → Option Value) (Df : Addr) (fo : List Value) (ef : Nat), Fr g L h m' → News g L h ((Df, listOf fo.toArray ef) :: (Dg, listOf gs.toArray eg) :: (D, listOf ys.toArray ed) :: (Dh, listOf ws.toArray eh) :: (Dn, oN) :: (c4, o4) :: (c5, o5) :: rst) → (Df :: Dg :: D :: Dh :: Dn :: c4 :: c5 :: ads rst).Nodup → IntsAre fo ((sk ++ lf).map fun k => ((k + 1 : Nat) : Int)) → m' "found" = some (.ref Df) → (∀ y : Str, y ≠ "found" → m' y = m y) →
    wpAny (model P0 w) ⟨none, d, fs, gd, u⟩ (execs ((lawBody w.params).drop 31) (lawEnv w.params L c1 c2 c3 c4 c5 c6 c7 c8 c9 c10)) Q (fun _ _ => False) (At s h t)
theorem seg9 (hK : PySem.Challenge.rw_pg0241_01 = PySem.Challenge.rw_pg0241_01 ∧ heapK = heapK) {w : World} {d : Nat} {fs : Option (List Env)} {gd : Option (List Code)} {u : Nat} {Q : Flow → Shared → Prop} {s : Shared} {g h : Heap} {t : Nat} {L c1 c2 c3 c4 c5 c6 c7 c8 c9 c10 Dg D Dh Dn : Addr} {oN o4 o5 : Obj} {m : Str → Option Value} {rst : List (Addr × Obj)} {R : List Row} {nR : Nat} {kvs : List (Str × Value)} {gs ys ws : List Value} {eg ed eh : Nat} {lf sk : List Nat}
  (B : Bs w g) (r : Rm ⟨none, d, fs, gd, u⟩ 80) (GR : GoodR R nR) (hnR : 6 ≤ nR ∧ nR ≤ 11) (lo : (Dn == sysModules) = false) (hs : Obj.IsDictOf (PySem.strKind P0 w) oN kvs) (hf : PyProof.V.FlatPairs PyData.str kvs (kdpD (numT R)))
  (hlf : lf.length ≤ 11) (hlt : ∀ k ∈ lf, k < nR) (hsk : sk.length ≤ 11) (hslt : ∀ k ∈ sk, k < nR) (hws : IntsAre ws (R.map fun r => (r.1 : Int)))
  (hys : StrsAre ys (lf.map (Wd R))) (hgs : StrsAre gs (sk.map (Wd R))) (d4 : o4.data = .cell (some (.ref Dn))) (d5 : o5.data = .cell (some (.ref Dh)))
  (F : Fr g L h m) (N : News g L h ((Dg, listOf gs.toArray eg) :: (D, listOf ys.toArray ed) :: (Dh, listOf ws.toArray eh) :: (Dn, oN) :: (c4, o4) :: (c5, o5) :: rst)) (nd : (Dg :: D :: Dh :: Dn :: c4 :: c5 :: ads rst).Nodup)
  (hm1 : m "rest" = some (.ref D)) (hm2 : m "gone" = some (.ref Dg))
  (hQ : Post9 w d fs gd u Q s g h t L c1 c2 c3 c4 c5 c6 c7 c8 c9 c10 Dg D Dh Dn oN o4 o5 m rst R nR kvs gs ys ws eg ed eh lf sk) :
  wpAny (model P0 w) ⟨none, d, fs, gd, u⟩ (execs ((lawBody w.params).drop 30) (lawEnv w.params L c1 c2 c3 c4 c5 c6 c7 c8 c9 c10)) Q (fun _ _ => False) (At s h t) := by
  revert hK; k_fill; intro hK; clear hK
  obtain ⟨p, loose, mean, mg, mb, T⟩ := B.T
  have X := B.X
  have hgl : gs.toArray.size ≤ 11 := by rw [List.size_toArray, StrsAre.len hgs, List.length_map]; exact hsk
  have hyl : ys.toArray.size ≤ 11 := by rw [List.size_toArray, StrsAre.len hys, List.length_map]; exact hlf
  have hall : StrsAre (gs ++ ys) ((sk ++ lf).map (Wd R)) := by
    rw [List.map_append]
    have key : ∀ {xs : List Value} {a : List Str} {zs : List Value} {b : List Str}, StrsAre xs a → StrsAre zs b → StrsAre (xs ++ zs) (a ++ b) := fun h1 h2 => by
      induction h1 with
      | nil => exact h2
      | cons y t r ih => exact .cons y t ih
    exact key hgs hys
  have hall2 : ∀ k ∈ sk ++ lf, k < nR := fun k hk => (List.mem_append.mp hk).elim (hslt k) (hlt k)
  have hall3 : (sk ++ lf).length ≤ 22 := by rw [List.length_append]; omega
  dsimp only [At]
  (rw [show (lawBody w.params).drop 30 = stm w.params 30 :: (lawBody w.params).drop 31 from rfl]; conv in (stm w.params 30) => whnf)
  walk_at "stms"
  refine compU (cl := [("whole", c5), ("number", c4)]) (by with_unfolding_all rfl) (by rfl) (by decide) rfl (by decide) (by decide) (by rfl) (by rfl) ?_
  walk_at "stms"
  with_reducible rename Fr _ _ _ _ => Fx
  with_reducible rename News _ _ _ _ => Nx
  have nd1 := nd_cons nd rfl (fun p hp => Heap.lt_size (N p hp).1)
  dsimp only at Nx
  generalize h.objs.size = D1 at Nx nd1 ⊢
  replace Nx : News g L _ ((D1, listOf (gs ++ ys).toArray 0) :: (Dg, listOf gs.toArray eg) :: (D, listOf ys.toArray ed) :: (Dh, listOf ws.toArray eh) :: (Dn, oN) :: (c4, o4) :: (c5, o5) :: rst) := Nx
  replace nd1 : (D1 :: Dg :: D :: Dh :: Dn :: c4 :: c5 :: ads rst).Nodup := nd1
  with_reducible rename StrsAre (_ ++ _) _ => hall
  unfold Post9 at hQ
  generalize sk ++ lf = al at hall hall2 hall3 hQ
  have hsz : (gs ++ ys).toArray.size = al.length := by rw [List.size_toArray, StrsAre.len hall, List.length_map]
  refine iterList Fx Nx (News.isList Nx (.head _)) (fun I h2i o0 F2 N2 lI hit0 hl0 hDI => ?_)
  have nd2 := nd_cons nd1 rfl lI
  clear Fx Nx
  refine compG_list (L := L) rfl rfl B F2 N2 nd2 hit0 (D0 := D1) (items := (gs ++ ys).toArray) (e0 := 0) (.head _)
    (fun i fo G => i ≤ al.length ∧ IntsAre fo ((al.take i).map fun k => ((k + 1 : Nat) : Int)) ∧ G = ((D1, listOf (gs ++ ys).toArray 0) :: (Dg, listOf gs.toArray eg) :: (D, listOf ys.toArray ed) :: (Dh, listOf ws.toArray eh) :: (Dn, oN) :: (c4, o4) :: (c5, o5) :: rst)) ?J0 ?Jl ?JG ?turn ?fin
  case J0 => exact ⟨Nat.zero_le _, IntsAre.nil, rfl⟩
  case Jl =>
    rintro i fo G ⟨hi, h2, h3⟩
    have := h2.length
    rw [List.length_map, List.length_take] at this
    omega
  case JG =>
    rintro i fo G ⟨hi, h2, rfl⟩
    exact .head _
  case turn =>
    rintro g₂ C D6 i v fo G o' e3 h t m' gg₂ B₂ hi hP ⟨hil, h2, rfl⟩ F3 N3 nd3
    clear F2 N2
    rw [hsz] at hi
    obtain ⟨yw, tw, hyw, rfl⟩ := strs_at hall (j := i) (by simpa using hP)
    obtain ⟨k, hk⟩ : ∃ q, al[i]? = some q := ⟨_, List.getElem?_eq_getElem hi⟩
    rw [List.getElem?_map, hk] at hyw
    cases hyw
    have hkn := hall2 k (List.mem_of_getElem? hk)
    obtain ⟨rk, hrk⟩ : ∃ q, R[k]? = some q := ⟨_, List.getElem?_eq_getElem (show k < R.length by rw [GR.len]; exact hkn)⟩
    have hWk := Wd_at hrk
    refine wpAny_tests_nil ?_
    rw [if_pos rfl]
    obtain ⟨p₂, loose₂, mean₂, mg₂, mb₂, T₂⟩ := B₂.T
    have X₂ := B₂.X
    walk_at "stms"
    refine kdp_item (c := numT R) (PyProof.Rows.TabAt.ofNews N3 (by k_mem) lo hs hf) (by rw [hWk]; exact num_has (List.mem_of_getElem? hrk)) (fun tk8 => ?_)
    rw [hWk, num_look (List.mem_of_getElem? hrk)]
    dsimp only
    walk_at "stms"
    refine wpAny_call (bisect_left_ok ⟨rfl, rfl⟩ (D := Dh) (vs := ws) (e := eh) B₂ F3.keep (r.less (by omega)) (own_of_news N3 fun p hp => by rw [List.mem_singleton.mp hp]; k_mem) hws (by rw [List.length_map, GR.len]; omega) (fun i j hij hj => ?_) (fun h5 t5 tr q k5 hq hb1 hb2 => ?_))
    · rcases Nat.eq_or_lt_of_le hij with rfl | hij
      · exact Int.le_refl _
      · exact Int.le_of_lt (whole_mono GR i j hij (by rwa [List.length_map] at hj))
    have eq := bisect_at GR hrk hq hb1 hb2
    subst eq
    have F5 := Fr.subs F3 k5
    have N5 := News.subs N3 k5
    clear F3 N3
    dsimp only
    walk_at "stms"
    show TurnEnd _ _ _ _ _ _ _ _ _ _
    refine ⟨_, _, _, _, rfl, F5, N5, nd3, hi, ?_, rfl⟩
    rw [take_snoc' hk, List.map_append]
    exact ints_app h2 (IntsAre.cons _ _ IntsAre.nil)
  case fin =>
    rintro Df fo G ef h t ⟨hil, h2, rfl⟩ F3 N3 nd3 h' t' F4 N4
    clear F2 N2 F3 N3
    rw [hsz, List.take_length] at h2
    refine hQ _ _ _ Df fo ef F4 (news_sub N4 (List.Sublist.cons_cons _ (List.Sublist.cons _ (List.Sublist.refl _)))) (List.Nodup.sublist (List.Sublist.cons_cons _ (List.Sublist.cons _ (List.Sublist.refl _))) nd3) h2 rfl ?_
    intro y h1
    exact if_neg h1
end
section
example : True := by w_top off; trivial
def Post10 (w : World) (d : Nat) (fs : Option (List Env)) (gd : Option (List Code)) (u : Nat) (Q : Flow → Shared → Prop) (s : Shared) (g h : Heap) (t : Nat) (L c1 c2 c3 c4 c5 c6 c7 c8 c9 c10 Df Dm Dst : Addr) (o7 : Obj) (m : Str → Option Value) (rst M G : List (Addr × Obj)) (fo mvs sts : List Value) (ef em est : Nat) (al st : List Nat) (mk : List (Nat × Nat)) : Prop :=
  ∀ (h : Heap) (t : Nat) (G : List (Addr × Obj)), Fr g L h m → News g L h ((Df, listOf fo.toArray ef) :: (Dm, listOf mvs.toArray em) :: (Dst, listOf sts.toArray est) :: (c7, o7) :: (M ++ (rst ++ G))) → (Df :: Dm :: Dst :: c7 :: ads (M ++ (rst ++ G))).Nodup → Tabs G →
    wpAny (model P0 w) ⟨none, d, fs, gd, u⟩ (execs ((lawBody w.params).drop 32) (lawEnv w.params L c1 c2 c3 c4 c5 c6 c7 c8 c9 c10)) Q (fun _ _ => False) (At s h t)
theorem seg10 (hK : PySem.Challenge.rw_pg0241_01 = PySem.Challenge.rw_pg0241_01 ∧ heapK = heapK) {w : World} {d : Nat} {fs : Option (List Env)} {gd : Option (List Code)} {u : Nat} {Q : Flow → Shared → Prop} {s : Shared} {g h : Heap} {t : Nat} {L c1 c2 c3 c4 c5 c6 c7 c8 c9 c10 Df Dm Dst : Addr} {o7 : Obj} {m : Str → Option Value} {rst M G : List (Addr × Obj)} {fo mvs sts : List Value} {ef em est : Nat} {al st : List Nat} {mk : List (Nat × Nat)}
  (B : Bs w g) (r : Rm ⟨none, d, fs, gd, u⟩ 80) (TG : Tabs G) (hM : MkA mvs M mk) (hsts : IntsAre sts (st.map (Nat.cast : Nat → Int))) (hst3 : st.length = 3) (hst4 : ∀ s ∈ st, 2 ≤ s ∧ s ≤ 4) (hmk : ∀ p ∈ mk, p.1 ≤ 3 ∧ 1 ≤ p.2 ∧ p.2 ≤ 11) (hml : mk.length ≤ 44)
  (hfo : IntsAre fo (al.map fun k => ((k + 1 : Nat) : Int))) (hplain : (mk.map fun p => backV p.2 (st.take p.1).reverse) = al.map (· + 1))
  (d7 : o7.data = .cell (some (.ref Dst)))
  (F : Fr g L h m) (N : News g L h ((Df, listOf fo.toArray ef) :: (Dm, listOf mvs.toArray em) :: (Dst, listOf sts.toArray est) :: (c7, o7) :: (M ++ (rst ++ G)))) (nd : (Df :: Dm :: Dst :: c7 :: ads (M ++ (rst ++ G))).Nodup)
  (hm1 : m "found" = some (.ref Df)) (hm2 : m "marks" = some (.ref Dm))
  (hQ : Post10 w d fs gd u Q s g h t L c1 c2 c3 c4 c5 c6 c7 c8 c9 c10 Df Dm Dst o7 m rst M G fo mvs sts ef em est al st mk) :
  wpAny (model P0 w) ⟨none, d, fs, gd, u⟩ (execs ((lawBody w.params).drop 31) (lawEnv w.params L c1 c2 c3 c4 c5 c6 c7 c8 c9 c10)) Q (fun _ _ => False) (At s h t) := by
  revert hK; k_fill; intro hK; clear hK
  obtain ⟨p, loose, mean, mg, mb, T⟩ := B.T
  have X := B.X
  have hmvl : mvs.toArray.size = mk.length := by rw [List.size_toArray, hM.len]
  have hstl : sts.toArray.size = 3 := by rw [List.size_toArray, hsts.length, List.length_map, hst3]
  dsimp only [At]
  (rw [show (lawBody w.params).drop 31 = stm w.params 31 :: (lawBody w.params).drop 32 from rfl]; conv in (stm w.params 31) => whnf)
  walk_at "stms"
  refine compE (cl := [("steps", c7)]) (by rfl) (by decide) rfl (by decide) (by decide) ?_
  walk_at "stms"
  with_reducible rename Fr _ _ _ _ => Fx
  refine iterList Fx N (News.isList N (.tail _ (.head _))) (fun I h2i o0 F2 N2 lI hit0 hl0 hDI => ?_)
  have nd2 := nd_cons nd rfl lI
  refine compG_list (L := L) rfl rfl B F2 N2 nd2 hit0 (D0 := Dm) (items := mvs.toArray) (e0 := em) (.tail _ (.head _))
    (fun i bs Z => ∃ G, i ≤ mk.length ∧ IntsAre bs (((mk.take i).map fun p => backV p.2 (st.take p.1).reverse).map (Nat.cast : Nat → Int)) ∧ Tabs G ∧ Z = ((Df, listOf fo.toArray ef) :: (Dm, listOf mvs.toArray em) :: (Dst, listOf sts.toArray est) :: (c7, o7) :: (M ++ (rst ++ G)))) ?J0 ?Jl ?JG ?turn ?fin
  case J0 => exact ⟨G, Nat.zero_le _, IntsAre.nil, TG, rfl⟩
  case Jl =>
    rintro i bs Z ⟨G, hi, h2, _, h3⟩
    have := h2.length
    rw [List.length_map, List.length_map, List.length_take] at this
    omega
  case JG =>
    rintro i bs Z ⟨G, hi, h2, _, rfl⟩
    exact .tail _ (.head _)
  case turn =>
    rintro g₂ C D6 i v bs Z o' e3 h t m' gg₂ B₂ hi hP ⟨G, hil, h2, TG, rfl⟩ F3 N3 nd3
    clear F2 N2 nd2 Fx N nd
    obtain ⟨a, pp, q, t1, t2, ea, rfl, hma, hmi⟩ := hM.at (j := i) (by simpa using hP)
    obtain ⟨hp3, hq1, hq2⟩ := hmk _ (List.mem_of_getElem? hmi)
    have hmem : (a, listOf #[.int (pp : Nat) t1, .int (q : Nat) t2] ea) ∈ (I, o') :: (D6, listOf bs.toArray e3) :: (Df, listOf fo.toArray ef) :: (Dm, listOf mvs.toArray em) :: (Dst, listOf sts.toArray est) :: (c7, o7) :: (M ++ (rst ++ G)) := .tail _ (.tail _ (.tail _ (.tail _ (.tail _ (.tail _ (List.mem_append_left _ hma))))))
    refine wpAny_tests_nil ?_
    rw [if_pos rfl]
    obtain ⟨p₂, loose₂, mean₂, mg₂, mb₂, T₂⟩ := B₂.T
    have X₂ := B₂.X
    walk_at "stms"
    refine item_list (News.isList N3 hmem) (by decide) (by decide) (show _ = some (Value.int (q : Nat) t2) from rfl) ?_
    walk_at "stms"
    refine item_list (News.isList N3 hmem) (by decide) (by decide) (show _ = some (Value.int (pp : Nat) t1) from rfl) ?_
    have ndl := nd3
    walk_at "stms"
    with_reducible rename Fr _ _ _ _ => F4
    with_reducible rename News _ _ _ _ => N4
    with_reducible rename List.Nodup _ => nd4
    with_reducible rename IntsAre _ (List.take _ _) => hI4
    with_reducible rename List Value => ws
    rename_i D7 hA4 _ _
    rw [Int.toNat_natCast, ← List.map_take] at hI4
    replace nd4 : (D7 :: I :: D6 :: Df :: Dm :: Dst :: c7 :: ads (M ++ (rst ++ G))).Nodup := nd4
    rw [← List.append_assoc M rst G] at N4 nd4
    have hown : Own g₂ hA4 ((D7, listOf ws.toArray 0) :: G) := own_of_news N4 fun p hp => (List.mem_cons.mp hp).elim (fun e => e ▸ .head _) fun hp => List.mem_append_right ((D7, listOf (List.toArray ws) 0) :: (I, o') :: (D6, listOf bs.toArray e3) :: (Df, listOf fo.toArray ef) :: (Dm, listOf mvs.toArray em) :: (Dst, listOf sts.toArray est) :: (c7, o7) :: (M ++ rst)) hp
    have ndd : (D7 :: ads G).Nodup := nd_sub (news := ((D7, listOf (List.toArray ws) 0) :: (I, o') :: (D6, listOf bs.toArray e3) :: (Df, listOf fo.toArray ef) :: (Dm, listOf mvs.toArray em) :: (Dst, listOf sts.toArray est) :: (c7, o7) :: (M ++ rst)) ++ G) (news' := (D7, listOf ws.toArray 0) :: G) nd4 (List.Sublist.cons_cons _ (List.sublist_append_right ((I, o') :: (D6, listOf bs.toArray e3) :: (Df, listOf fo.toArray ef) :: (Dm, listOf mvs.toArray em) :: (Dst, listOf sts.toArray est) :: (c7, o7) :: (M ++ rst)) G))
    refine wpAny_call (law_back_ok ⟨rfl, rfl⟩ (st := st.take pp) (p0 := q) (D := D7) (vs := ws) (e := 0) (G := G) B₂ F4.keep (r.less (by omega)) hown TG ndd hI4 (fun x hx => hst4 x (List.mem_of_mem_take hx)) (by rw [List.length_take]; omega) (by omega) hq1 (fun h5 t5 tv5 G5 D5 TG5 => ?_))
    obtain ⟨F5, N5, nd5⟩ := D5.after (pre := ((D7, listOf (List.toArray ws) 0) :: (I, o') :: (D6, listOf bs.toArray e3) :: (Df, listOf fo.toArray ef) :: (Dm, listOf mvs.toArray em) :: (Dst, listOf sts.toArray est) :: (c7, o7) :: (M ++ rst))) F4 N4 nd4
    replace N5 : News g₂ C h5 ((D7, listOf ws.toArray 0) :: (I, o') :: (D6, listOf bs.toArray e3) :: (Df, listOf fo.toArray ef) :: (Dm, listOf mvs.toArray em) :: (Dst, listOf sts.toArray est) :: (c7, o7) :: (M ++ rst ++ G5)) := N5
    replace nd5 : (D7 :: I :: D6 :: Df :: Dm :: Dst :: c7 :: ads (M ++ rst ++ G5)).Nodup := nd5
    rw [List.append_assoc M rst G5] at N5 nd5
    show TurnEnd _ _ _ _ _ _ _ _ _ _
    refine ⟨_, _, _, _, rfl, F5, fun p hp => N5 p (.tail _ hp), ndt nd5, G5, by have := (List.getElem?_eq_some_iff.mp hmi).1; omega, ?_, TG5, rfl⟩
    rw [take_snoc' hmi, List.map_append, List.map_append]
    exact ints_app h2 (IntsAre.cons _ _ IntsAre.nil)
  case fin =>
    rintro Db bs Z eb h t ⟨G, hil, h2, TG, rfl⟩ F3 N3 nd3
    clear F2 N2 nd2 Fx N nd
    rw [hmvl, List.take_length, hplain] at h2
    dsimp only [At]
    walk_at "stms"
    have e1 : al.map (fun k => ((k + 1 : Nat) : Int)) = (al.map (· + 1)).map (Nat.cast : Nat → Int) := by rw [List.map_map]; rfl
    refine ke_ne_ints (News.isList N3 (.tail _ (.head _))) (News.isList N3 (.head _)) hfo h2 (Rm.u64 r) ?_
    rw [e1, decide_eq_true rfl]
    walk_at "stms"
    exact hQ _ _ G F3 (fun p hp => N3 p (.tail _ hp)) (ndt nd3) TG
end
section
example : True := by w_top off; trivial
def Post11 (w : World) (d : Nat) (fs : Option (List Env)) (gd : Option (List Code)) (u : Nat) (Q : Flow → Shared → Prop) (s : Shared) (g h : Heap) (t : Nat) (L c1 c2 c3 c4 c5 c6 c7 c8 c9 c10 Df Dsk Dl : Addr) (o8 : Obj) (m : Str → Option Value) (rst : List (Addr × Obj)) (fo sks zs : List Value) (ef esk el : Nat) (sk lf : List Nat) : Prop :=
  ∀ (h : Heap) (t : Nat), Fr g L h m → News g L h ((Df, listOf fo.toArray ef) :: (Dsk, listOf sks.toArray esk) :: (Dl, listOf zs.toArray el) :: (c8, o8) :: rst) →
    wpAny (model P0 w) ⟨none, d, fs, gd, u⟩ (execs ((lawBody w.params).drop 33) (lawEnv w.params L c1 c2 c3 c4 c5 c6 c7 c8 c9 c10)) Q (fun _ _ => False) (At s h t)
theorem seg11 (hK : PySem.Challenge.rw_pg0241_01 = PySem.Challenge.rw_pg0241_01 ∧ heapK = heapK) {w : World} {d : Nat} {fs : Option (List Env)} {gd : Option (List Code)} {u : Nat} {Q : Flow → Shared → Prop} {s : Shared} {g h : Heap} {t : Nat} {L c1 c2 c3 c4 c5 c6 c7 c8 c9 c10 Df Dsk Dl : Addr} {o8 : Obj} {m : Str → Option Value} {rst : List (Addr × Obj)} {fo sks zs : List Value} {ef esk el : Nat} {sk lf : List Nat}
  (B : Bs w g) (r : Rm ⟨none, d, fs, gd, u⟩ 80) (hlf : lf.length ≤ 11) (hsk : sk.length ≤ 11)
  (hfo : IntsAre fo ((sk ++ lf).map fun k => ((k + 1 : Nat) : Int))) (hzs : IntsAre zs (lf.map (Nat.cast : Nat → Int))) (hsks : IntsAre sks (sk.map (Nat.cast : Nat → Int)))
  (d8 : o8.data = .cell (some (.ref Dl)))
  (F : Fr g L h m) (N : News g L h ((Df, listOf fo.toArray ef) :: (Dsk, listOf sks.toArray esk) :: (Dl, listOf zs.toArray el) :: (c8, o8) :: rst)) (nd : (Df :: Dsk :: Dl :: c8 :: ads rst).Nodup)
  (hm1 : m "found" = some (.ref Df)) (hm2 : m "struck" = some (.ref Dsk))
  (hQ : Post11 w d fs gd u Q s g h t L c1 c2 c3 c4 c5 c6 c7 c8 c9 c10 Df Dsk Dl o8 m rst fo sks zs ef esk el sk lf) :
  wpAny (model P0 w) ⟨none, d, fs, gd, u⟩ (execs ((lawBody w.params).drop 32) (lawEnv w.params L c1 c2 c3 c4 c5 c6 c7 c8 c9 c10)) Q (fun _ _ => False) (At s h t) := by
  revert hK; k_fill; intro hK; clear hK
  obtain ⟨p, loose, mean, mg, mb, T⟩ := B.T
  have X := B.X
  have hskl : sks.toArray.size ≤ 11 := by rw [List.size_toArray, hsks.length, List.length_map]; exact hsk
  have hzl : zs.toArray.size ≤ 11 := by rw [List.size_toArray, hzs.length, List.length_map]; exact hlf
  dsimp only [At]
  (rw [show (lawBody w.params).drop 32 = stm w.params 32 :: (lawBody w.params).drop 33 from rfl]; conv in (stm w.params 32) => whnf)
  walk_at "stms"
  refine compE (cl := []) (by rfl) (by decide) rfl (by decide) (by decide) ?_
  walk_at "stms"
  with_reducible rename Fr _ _ _ _ => Fx
  with_reducible rename News _ _ _ _ => Nx
  with_reducible rename List.Nodup _ => ndx
  with_reducible rename IntsAre _ (_ ++ _) => hI
  rename_i D1 ws hA
  rw [← List.map_append] at hI
  have hall3 : (sk ++ lf).length ≤ 22 := by rw [List.length_append]; omega
  generalize sk ++ lf = al at hI hfo hall3
  have hsz : ws.toArray.size = al.length := by rw [List.size_toArray, hI.length, List.length_map]
  refine iterList Fx Nx (News.isList Nx (.head _)) (fun I h2i o0 F2 N2 lI hit0 hl0 hDI => ?_)
  have nd2 := nd_cons ndx rfl lI
  clear Fx Nx
  refine compG_list (L := L) rfl rfl B F2 N2 nd2 hit0 (D0 := D1) (items := ws.toArray) (e0 := 0) (.head _)
    (fun i bs G => i ≤ al.length ∧ IntsAre bs ((al.take i).map fun k => ((k + 1 : Nat) : Int)) ∧ G = ((D1, listOf (List.toArray ws) 0) :: (Df, listOf fo.toArray ef) :: (Dsk, listOf sks.toArray esk) :: (Dl, listOf zs.toArray el) :: (c8, o8) :: rst)) ?J0 ?Jl ?JG ?turn ?fin
  case J0 => exact ⟨Nat.zero_le _, IntsAre.nil, rfl⟩
  case Jl =>
    rintro i fo G ⟨hi, h2, h3⟩
    have := h2.length
    rw [List.length_map, List.length_take] at this
    omega
  case JG =>
    rintro i fo G ⟨hi, h2, rfl⟩
    exact .head _
  case turn =>
    rintro g₂ C D6 i v bs G o' e3 h t m' gg₂ B₂ hi hP ⟨hil, h2, rfl⟩ F3 N3 nd3
    clear F2 N2
    rw [hsz] at hi
    obtain ⟨k, tk, hk, rfl⟩ := ints_nat_at hI (j := i) (by simpa using hP)
    refine wpAny_tests_nil ?_
    rw [if_pos rfl]
    walk_at "stms"
    show TurnEnd _ _ _ _ _ _ _ _ _ _
    refine ⟨_, _, _, _, rfl, F3, N3, nd3, hi, ?_, rfl⟩
    rw [take_snoc' hk, List.map_append]
    exact ints_app h2 (IntsAre.cons _ _ IntsAre.nil)
  case fin =>
    rintro Db bs G eb h t ⟨hil, h2, rfl⟩ F3 N3 nd3
    clear F2 N2
    rw [hsz, List.take_length] at h2
    dsimp only [At]
    walk_at "stms"
    refine ke_ne_ints (News.isList N3 (.tail _ (.tail _ (.head _)))) (News.isList N3 (.head _)) hfo h2 (Rm.u64 r) ?_
    rw [decide_eq_true rfl]
    walk_at "stms"
    exact hQ _ _ F3 (fun p hp => N3 p (.tail _ (.tail _ hp)))
end
section
example : True := by w_top off; trivial
/-- the number at a place of the text -/
def Vl (R : List Row) (k : Nat) : Nat := ((R[k]?).getD (0, 0, 0)).1
theorem Vl_at {R : List Row} {k : Nat} {r : Row} (h : R[k]? = some r) : Vl R k = r.1 := by unfold Vl; rw [h]; rfl
def Post12 (w : World) (d : Nat) (fs : Option (List Env)) (gd : Option (List Code)) (u : Nat) (Q : Flow → Shared → Prop) (s : Shared) (g h : Heap) (t : Nat) (L c1 c2 c3 c4 c5 c6 c7 c8 c9 c10 D Dn : Addr) (oN o4 : Obj) (m : Str → Option Value) (rst : List (Addr × Obj)) (R : List Row) (nR : Nat) (kvs : List (Str × Value)) (ys : List Value) (ed : Nat) (lf : List Nat) : Prop :=
  ∀ (h : Heap) (t : Nat) (m' : Str → Option Value) (Dr : Addr) (rw : List Value) (er : Nat), Fr g L h m' → News g L h ((Dr, listOf rw.toArray er) :: (D, listOf ys.toArray ed) :: (Dn, oN) :: (c4, o4) :: rst) → (Dr :: D :: Dn :: c4 :: ads rst).Nodup → IntsAre rw (lf.map fun k => (Vl R k : Int)) → m' "row" = some (.ref Dr) → (∀ y : Str, y ≠ "row" → m' y = m y) →
    wpAny (model P0 w) ⟨none, d, fs, gd, u⟩ (execs ((lawBody w.params).drop 34) (lawEnv w.params L c1 c2 c3 c4 c5 c6 c7 c8 c9 c10)) Q (fun _ _ => False) (At s h t)
theorem seg12 (hK : PySem.Challenge.rw_pg0241_01 = PySem.Challenge.rw_pg0241_01 ∧ heapK = heapK) {w : World} {d : Nat} {fs : Option (List Env)} {gd : Option (List Code)} {u : Nat} {Q : Flow → Shared → Prop} {s : Shared} {g h : Heap} {t : Nat} {L c1 c2 c3 c4 c5 c6 c7 c8 c9 c10 D Dn : Addr} {oN o4 : Obj} {m : Str → Option Value} {rst : List (Addr × Obj)} {R : List Row} {nR : Nat} {kvs : List (Str × Value)} {ys : List Value} {ed : Nat} {lf : List Nat}
  (B : Bs w g) (r : Rm ⟨none, d, fs, gd, u⟩ 80) (GR : GoodR R nR) (lo : (Dn == sysModules) = false) (hs : Obj.IsDictOf (PySem.strKind P0 w) oN kvs) (hf : PyProof.V.FlatPairs PyData.str kvs (kdpD (numT R)))
  (hlf : lf.length ≤ 11) (hlt : ∀ k ∈ lf, k < nR) (hys : StrsAre ys (lf.map (Wd R))) (d4 : o4.data = .cell (some (.ref Dn)))
  (F : Fr g L h m) (N : News g L h ((D, listOf ys.toArray ed) :: (Dn, oN) :: (c4, o4) :: rst)) (nd : (D :: Dn :: c4 :: ads rst).Nodup)
  (hm1 : m "rest" = some (.ref D))
  (hQ : Post12 w d fs gd u Q s g h t L c1 c2 c3 c4 c5 c6 c7 c8 c9 c10 D Dn oN o4 m rst R nR kvs ys ed lf) :
  wpAny (model P0 w) ⟨none, d, fs, gd, u⟩ (execs ((lawBody w.params).drop 33) (lawEnv w.params L c1 c2 c3 c4 c5 c6 c7 c8 c9 c10)) Q (fun _ _ => False) (At s h t) := by
  revert hK; k_fill; intro hK; clear hK
  obtain ⟨p, loose, mean, mg, mb, T⟩ := B.T
  have X := B.X
  have hsz : ys.toArray.size = lf.length := by rw [List.size_toArray, StrsAre.len hys, List.length_map]
  dsimp only [At]
  (rw [show (lawBody w.params).drop 33 = stm w.params 33 :: (lawBody w.params).drop 34 from rfl]; conv in (stm w.params 33) => whnf)
  walk_at "stms"
  refine compU (cl := [("number", c4)]) (by with_unfolding_all rfl) (by rfl) (by decide) rfl (by decide) (by decide) (by rfl) (by rfl) ?_
  walk_at "stms"
  refine iterList F N (News.isList N (.head _)) (fun I h2i o0 F2 N2 lI hit0 hl0 hDI => ?_)
  have nd2 := nd_cons nd rfl lI
  refine compG_list (L := L) rfl rfl B F2 N2 nd2 hit0 (D0 := D) (items := ys.toArray) (e0 := ed) (.head _)
    (fun i ws G => i ≤ lf.length ∧ IntsAre ws ((lf.take i).map fun k => (Vl R k : Int)) ∧ G = ((D, listOf ys.toArray ed) :: (Dn, oN) :: (c4, o4) :: rst)) ?J0 ?Jl ?JG ?turn ?fin
  case J0 => exact ⟨Nat.zero_le _, IntsAre.nil, rfl⟩
  case Jl =>
    rintro i fo G ⟨hi, h2, h3⟩
    have := h2.length
    rw [List.length_map, List.length_take] at this
    omega
  case JG =>
    rintro i fo G ⟨hi, h2, rfl⟩
    exact .head _
  case turn =>
    rintro g₂ C D6 i v ws G oi e6 h7 t7 m7 gg₂ B₂ hi hP ⟨hil, h2, rfl⟩ F7 N7 nd7
    clear F2 N2
    rw [hsz] at hi
    obtain ⟨yw, tw, hyw, rfl⟩ := strs_at hys (j := i) (by simpa using hP)
    obtain ⟨k, hk⟩ : ∃ q, lf[i]? = some q := ⟨_, List.getElem?_eq_getElem hi⟩
    rw [List.getElem?_map, hk] at hyw
    cases hyw
    have hkn := hlt k (List.mem_of_getElem? hk)
    obtain ⟨rk, hrk⟩ : ∃ q, R[k]? = some q := ⟨_, List.getElem?_eq_getElem (show k < R.length by rw [GR.len]; exact hkn)⟩
    have hWk := Wd_at hrk
    refine wpAny_tests_nil ?_
    rw [if_pos rfl]
    walk_at "stms"
    refine kdp_item (c := numT R) (PyProof.Rows.TabAt.ofNews N7 (.tail _ (.tail _ (.tail _ (.head _)))) lo hs hf) (by rw [hWk]; exact num_has (List.mem_of_getElem? hrk)) (fun tk8 => ?_)
    rw [hWk, num_look (List.mem_of_getElem? hrk)]
    show TurnEnd _ _ _ _ _ _ _ _ _ _
    refine ⟨_, _, _, _, rfl, F7, N7, nd7, hi, ?_, rfl⟩
    rw [take_snoc' hk, List.map_append, List.map_singleton, Vl_at hrk]
    exact ints_app h2 (IntsAre.cons _ _ IntsAre.nil)
  case fin =>
    rintro Dr rw1 G er h t ⟨hil, h2, rfl⟩ F3 N3 nd3 h' t' F4 N4
    rw [hsz, List.take_length] at h2
    refine hQ _ _ _ Dr rw1 er F4 N4 nd3 h2 rfl ?_
    intro y h1
    exact if_neg h1
end
section
example : True := by w_top off; trivial
noncomputable def mbody (p : Params) : List Stmt := forBody (stm p 34)
noncomputable def mbs (p : Params) (k : Nat) : Stmt := ((mbody p)[k]?).getD (.Pass default)
example (p : Params) : (mbody p).length = 3 := by rfl
theorem due_at {R : List Row} {lf : List Nat} {nR j q : Nat} {r : Row} (GR : GoodR R nR) (hlt : ∀ k ∈ lf, k < nR) (hinc : lf.Pairwise (· < ·)) (hj : 0 < j) (hr : R[j - 1]? = some r)
  (hq : q ≤ (lf.map fun k => (Vl R k : Int)).length) (h1 : ∀ i, i < q → (lf.map fun k => (Vl R k : Int)).getD i 0 ≤ (r.1 : Int)) (h2 : ∀ i, q ≤ i → i < (lf.map fun k => (Vl R k : Int)).length → (r.1 : Int) < (lf.map fun k => (Vl R k : Int)).getD i 0) : q = (lf.filter (· < j)).length := by
  rw [List.length_map] at hq h2
  have hv : ∀ i, (hi : i < lf.length) → (lf.map fun k => (Vl R k : Int)).getD i 0 = (Vl R lf[i] : Int) := fun i hi => by
    rw [List.getD_eq_getElem?_getD, List.getElem?_map, List.getElem?_eq_getElem hi]; rfl
  have hR : ∀ k, (hk : k < nR) → (Vl R k ≤ r.1 ↔ k < j) := fun k hk => by
    have hk2 : k < R.length := by rw [GR.len]; exact hk
    rw [Vl_at (List.getElem?_eq_getElem hk2)]
    obtain ⟨hjl, he⟩ := List.getElem?_eq_some_iff.mp hr
    have P := List.pairwise_iff_getElem.mp GR.inc
    rw [← he]
    constructor
    · intro hle
      refine Classical.byContradiction fun hn => ?_
      have := P (j - 1) k hjl hk2 (by omega)
      omega
    · intro hlt
      rcases Nat.eq_or_lt_of_le (show k ≤ j - 1 by omega) with e | e
      · subst e; exact Nat.le_refl _
      · exact Nat.le_of_lt (P k (j - 1) hk2 hjl e)
  have a1 : ∀ k ∈ lf.take q, (decide (k < j)) = true := fun k hk => by
    obtain ⟨i, hi⟩ := List.getElem?_of_mem hk
    rw [List.getElem?_take] at hi
    split at hi
    · rename_i hiq
      obtain ⟨hil, he⟩ := List.getElem?_eq_some_iff.mp hi
      have := h1 i hiq
      rw [hv i hil, he] at this
      exact decide_eq_true ((hR k (hlt k (by rw [← he]; exact List.getElem_mem _))).mp (by omega))
    · cases hi
  have a2 : ∀ k ∈ lf.drop q, ¬ (decide (k < j)) = true := fun k hk => by
    obtain ⟨i, hi⟩ := List.getElem?_of_mem hk
    rw [List.getElem?_drop] at hi
    obtain ⟨hil, he⟩ := List.getElem?_eq_some_iff.mp hi
    have := h2 (q + i) (by omega) hil
    rw [hv _ hil, he] at this
    have hh := hR k (hlt k (by rw [← he]; exact List.getElem_mem _))
    rw [decide_eq_true_eq]
    intro hkj
    have := hh.mpr hkj
    omega
  have e : lf.filter (· < j) = lf.take q := by
    conv => lhs; rw [← List.take_append_drop q lf]
    rw [List.filter_append, List.filter_eq_self.mpr a1, List.filter_eq_nil_iff.mpr a2, List.append_nil]
  rw [e, List.length_take]
  omega
end
section
example : True := by w_top off; trivial
def Postm1 (w : World) (d : Nat) (fs : Option (List Env)) (gd : Option (List Code)) (u : Nat) (Q : Flow → Shared → Prop) (s : Shared) (g h : Heap) (t : Nat) (L c1 c2 c3 c4 c5 c6 c7 c8 c9 c10 Dr Dh : Addr) (o5 o10 : Obj) (m : Str → Option Value) (rst : List (Addr × Obj)) (R : List Row) (nR j : Nat) (rw ws : List Value) (er eh : Nat) (lf : List Nat) (tm : Tok) : Prop :=
  ∀ (h : Heap) (t : Nat) (m' : Str → Option Value) (td : Tok), Fr g L h m' → News g L h ((Dr, listOf rw.toArray er) :: (Dh, listOf ws.toArray eh) :: (c5, o5) :: (c10, o10) :: rst) → m' "due" = some (.int ((lf.filter (· < j)).length : Nat) td) → (∀ y : Str, y ≠ "due" → m' y = m y) →
    wpAny (model P0 w) ⟨none, d, fs, gd, u⟩ (execs ((mbody w.params).drop 1) (lawEnv w.params L c1 c2 c3 c4 c5 c6 c7 c8 c9 c10)) Q (fun _ _ => False) (At s h t)
theorem segm1 (hK : PySem.Challenge.rw_pg0241_01 = PySem.Challenge.rw_pg0241_01 ∧ heapK = heapK) {w : World} {d : Nat} {fs : Option (List Env)} {gd : Option (List Code)} {u : Nat} {Q : Flow → Shared → Prop} {s : Shared} {g h : Heap} {t : Nat} {L c1 c2 c3 c4 c5 c6 c7 c8 c9 c10 Dr Dh : Addr} {o5 o10 : Obj} {m : Str → Option Value} {rst : List (Addr × Obj)} {R : List Row} {nR j : Nat} {rw ws : List Value} {er eh : Nat} {lf : List Nat} {tm : Tok}
  (B : Bs w g) (r : Rm ⟨none, d, fs, gd, u⟩ 80) (GR : GoodR R nR) (hnR : 6 ≤ nR ∧ nR ≤ 11) (hlf : lf.length ≤ 11) (hlt : ∀ k ∈ lf, k < nR) (hinc : lf.Pairwise (· < ·)) (hj : j ≤ nR)
  (hrw : IntsAre rw (lf.map fun k => (Vl R k : Int))) (hws : IntsAre ws (R.map fun r => (r.1 : Int)))
  (d5 : o5.data = .cell (some (.ref Dh))) (d10 : o10.data = .cell (some (.int (j : Nat) tm)))
  (F : Fr g L h m) (N : News g L h ((Dr, listOf rw.toArray er) :: (Dh, listOf ws.toArray eh) :: (c5, o5) :: (c10, o10) :: rst))
  (hm1 : m "row" = some (.ref Dr))
  (hQ : Postm1 w d fs gd u Q s g h t L c1 c2 c3 c4 c5 c6 c7 c8 c9 c10 Dr Dh o5 o10 m rst R nR j rw ws er eh lf tm) :
  wpAny (model P0 w) ⟨none, d, fs, gd, u⟩ (execs ((mbody w.params).drop 0) (lawEnv w.params L c1 c2 c3 c4 c5 c6 c7 c8 c9 c10)) Q (fun _ _ => False) (At s h t) := by
  revert hK; k_fill; intro hK; clear hK
  obtain ⟨p, loose, mean, mg, mb, T⟩ := B.T
  have X := B.X
  dsimp only [At]
  by_cases hj0 : j = 0
  · subst hj0
    (rw [show (mbody w.params).drop 0 = mbs w.params 0 :: (mbody w.params).drop 1 from rfl]; conv in (mbs w.params 0) => whnf)
    walk_at "stms"
    with_reducible rename Fr _ _ _ _ => Fx
    with_reducible rename News _ _ _ _ => Nx
    refine' hQ _ _ _ _ Fx Nx ?b1 ?b2
    case b1 =>
      rw [show lf.filter (fun x => decide (x < 0)) = [] from List.filter_eq_nil_iff.mpr (by intro a _; simp)]
      rfl
    case b2 =>
      intro y h1
      exact if_neg h1
  · have hjp : 0 < (j : Int) := by omega
    obtain ⟨rk, hrk⟩ : ∃ q, R[j - 1]? = some q := ⟨_, List.getElem?_eq_getElem (show j - 1 < R.length by rw [GR.len]; omega)⟩
    obtain ⟨ve, hve⟩ : ∃ q, ws[j - 1]? = some q := ⟨_, List.getElem?_eq_getElem (show j - 1 < ws.length by rw [hws.length, List.length_map, GR.len]; omega)⟩
    obtain ⟨z3, tz3, hz3, rfl⟩ := ints_at hws hve
    rw [List.getElem?_map, hrk] at hz3
    cases hz3
    (rw [show (mbody w.params).drop 0 = mbs w.params 0 :: (mbody w.params).drop 1 from rfl]; conv in (mbs w.params 0) => whnf)
    walk_at "stms"
    with_reducible rename Fr _ _ _ _ => Fx
    with_reducible rename News _ _ _ _ => Nx
    refine item_list (News.isList (a := Dh) (items := ws.toArray) (n := eh) Nx (.tail _ (.head _))) (by omega) (by omega) (show ws.toArray[((j : Int) - 1).toNat]? = some (.int (rk.1 : Nat) tz3) by rw [show ((j : Int) - 1).toNat = j - 1 by omega]; simpa using hve) ?_
    walk_at "stms"
    refine wpAny_call (bisect_right_ok ⟨rfl, rfl⟩ (D := Dr) (vs := rw) (e := er) B Fx.keep (r.less (by omega)) (own_of_news Nx fun p hp => by rw [List.mem_singleton.mp hp]; exact .head _) hrw (by rw [List.length_map]; omega) (fun i k hik hk => ?_) (fun h5 t5 tr q k5 hq hb1 hb2 => ?_))
    · rw [List.length_map] at hk
      have hv : ∀ i, (hi : i < lf.length) → (lf.map fun k => (Vl R k : Int)).getD i 0 = (Vl R lf[i] : Int) := fun i hi => by
        rw [List.getD_eq_getElem?_getD, List.getElem?_map, List.getElem?_eq_getElem hi]; rfl
      rw [hv i (by omega), hv k hk]
      rcases Nat.eq_or_lt_of_le hik with rfl | hik
      · exact Int.le_refl _
      · have hlt2 := List.pairwise_iff_getElem.mp hinc i k (by omega) hk hik
        have b1 := hlt _ (List.getElem_mem (h := show i < lf.length by omega))
        have b2 := hlt _ (List.getElem_mem (h := hk))
        have hm := whole_mono GR _ _ hlt2 (by rw [GR.len]; exact b2)
        have hc : ∀ k, k < nR → (R.map fun r => (r.1 : Int)).getD k 0 = (Vl R k : Int) := fun k hk => by
          rw [List.getD_eq_getElem?_getD, List.getElem?_map, List.getElem?_eq_getElem (show k < R.length by rw [GR.len]; exact hk), Vl_at (List.getElem?_eq_getElem (show k < R.length by rw [GR.len]; exact hk))]; rfl
        rw [hc _ b1, hc _ b2] at hm
        exact Int.le_of_lt hm
    have eq := due_at GR hlt hinc (by omega) hrk hq hb1 hb2
    subst eq
    have F5 := Fr.subs Fx k5
    have N5 := News.subs Nx k5
    clear Fx Nx
    dsimp only
    walk_at "stms"
    with_reducible rename Fr _ _ _ _ => Fy
    with_reducible rename News _ _ _ _ => Ny
    refine' hQ _ _ _ _ Fy Ny ?b1 ?b2
    case b1 => rfl
    case b2 =>
      intro y h1
      exact if_neg h1
end
section
example : True := by w_top off; trivial
def Postm2 (w : World) (d : Nat) (fs : Option (List Env)) (gd : Option (List Code)) (u : Nat) (Q : Flow → Shared → Prop) (s : Shared) (g h : Heap) (t : Nat) (L c1 c2 c3 c4 c5 c6 c7 c8 c9 c10 Dl Dst : Addr) (o7 o8 o10 : Obj) (m : Str → Option Value) (rst G : List (Addr × Obj)) (nR j : Nat) (zs sts : List Value) (el est : Nat) (lf st : List Nat) (tm td : Tok) : Prop :=
  ∀ (h : Heap) (t : Nat) (G : List (Addr × Obj)), Fr g L h m → News g L h ((Dl, listOf zs.toArray el) :: (Dst, listOf sts.toArray est) :: (c7, o7) :: (c8, o8) :: (c10, o10) :: (rst ++ G)) → (Dl :: Dst :: c7 :: c8 :: c10 :: ads (rst ++ G)).Nodup → Tabs G →
    wpAny (model P0 w) ⟨none, d, fs, gd, u⟩ (execs ((mbody w.params).drop 3) (lawEnv w.params L c1 c2 c3 c4 c5 c6 c7 c8 c9 c10)) Q (fun _ _ => False) (At s h t)
theorem segm2 (hK : PySem.Challenge.rw_pg0241_01 = PySem.Challenge.rw_pg0241_01 ∧ heapK = heapK) {w : World} {d : Nat} {fs : Option (List Env)} {gd : Option (List Code)} {u : Nat} {Q : Flow → Shared → Prop} {s : Shared} {g h : Heap} {t : Nat} {L c1 c2 c3 c4 c5 c6 c7 c8 c9 c10 Dl Dst : Addr} {o7 o8 o10 : Obj} {m : Str → Option Value} {rst G : List (Addr × Obj)} {nR j : Nat} {zs sts : List Value} {el est : Nat} {lf st : List Nat} {tm td : Tok}
  (B : Bs w g) (r : Rm ⟨none, d, fs, gd, u⟩ 80) (TG : Tabs G) (hnR : nR ≤ 11) (hj : j ≤ nR) (hlf : lf.length ≤ 11) (hzs : IntsAre zs (lf.map (Nat.cast : Nat → Int))) (hsts : IntsAre sts (st.map (Nat.cast : Nat → Int))) (hst4 : ∀ s ∈ st, 2 ≤ s ∧ s ≤ 4) (hfo : forthV j st = (lf.filter (· < j)).length)
  (d7 : o7.data = .cell (some (.ref Dst))) (d8 : o8.data = .cell (some (.ref Dl))) (d10 : o10.data = .cell (some (.int (j : Nat) tm)))
  (F : Fr g L h m) (N : News g L h ((Dl, listOf zs.toArray el) :: (Dst, listOf sts.toArray est) :: (c7, o7) :: (c8, o8) :: (c10, o10) :: (rst ++ G))) (nd : (Dl :: Dst :: c7 :: c8 :: c10 :: ads (rst ++ G)).Nodup)
  (hm1 : m "due" = some (.int ((lf.filter (· < j)).length : Nat) td))
  (hQ : Postm2 w d fs gd u Q s g h t L c1 c2 c3 c4 c5 c6 c7 c8 c9 c10 Dl Dst o7 o8 o10 m rst G nR j zs sts el est lf st tm td) :
  wpAny (model P0 w) ⟨none, d, fs, gd, u⟩ (execs ((mbody w.params).drop 1) (lawEnv w.params L c1 c2 c3 c4 c5 c6 c7 c8 c9 c10)) Q (fun _ _ => False) (At s h t) := by
  revert hK; k_fill; intro hK; clear hK
  obtain ⟨p, loose, mean, mg, mb, T⟩ := B.T
  have X := B.X
  have hzl : zs.toArray.size = lf.length := by rw [List.size_toArray, hzs.length, List.length_map]
  dsimp only [At]
  (rw [show (mbody w.params).drop 1 = mbs w.params 1 :: (mbody w.params).drop 2 from rfl]; conv in (mbs w.params 1) => whnf)
  walk_at "stms"
  have hown : Own g h ((Dst, listOf sts.toArray est) :: G) := own_of_news N fun p hp => (List.mem_cons.mp hp).elim (fun e => e ▸ .tail _ (.head _)) fun hp => List.mem_append_right ((Dl, listOf zs.toArray el) :: (Dst, listOf sts.toArray est) :: (c7, o7) :: (c8, o8) :: (c10, o10) :: rst) hp
  have ndd : (Dst :: ads G).Nodup := nd_sub (news := ((Dl, listOf zs.toArray el) :: (Dst, listOf sts.toArray est) :: (c7, o7) :: (c8, o8) :: (c10, o10) :: rst) ++ G) (news' := (Dst, listOf sts.toArray est) :: G) nd (List.Sublist.cons _ (List.Sublist.cons_cons _ (List.sublist_append_right ((c7, o7) :: (c8, o8) :: (c10, o10) :: rst) G)))
  refine wpAny_call (law_forth_ok ⟨rfl, rfl⟩ (st := st) (p0 := j) (D := Dst) (vs := sts) (e := est) (G := G) B F.keep (r.less (by omega)) hown TG ndd hsts hst4 (by omega) (fun h5 t5 tv5 G5 D5 TG5 => ?_))
  obtain ⟨F5, N5, nd5⟩ := D5.after (pre := (Dl, listOf zs.toArray el) :: (Dst, listOf sts.toArray est) :: (c7, o7) :: (c8, o8) :: (c10, o10) :: rst) F N nd
  replace N5 : News g L h5 ((Dl, listOf zs.toArray el) :: (Dst, listOf sts.toArray est) :: (c7, o7) :: (c8, o8) :: (c10, o10) :: (rst ++ G5)) := N5
  replace nd5 : (Dl :: Dst :: c7 :: c8 :: c10 :: ads (rst ++ G5)).Nodup := nd5
  clear F N nd hown ndd
  rw [hfo]
  dsimp only
  walk_at "stms"
  all_goals try (exfalso; (with_reducible rename (_ ≠ _) => hbad); exact hbad rfl)
  dsimp only
  (rw [show (mbody w.params).drop 2 = mbs w.params 2 :: (mbody w.params).drop 3 from rfl]; conv in (mbs w.params 2) => whnf)
  walk_at "stms"
  refine compE (cl := [("m", c10)]) (by rfl) (by decide) rfl (by decide) (by decide) ?_
  walk_at "stms"
  refine iterList F5 N5 (News.isList N5 (.head _)) (fun I h2i o0 F2 N2 lI hit0 hl0 hDI => ?_)
  have nd2 := nd_cons nd5 rfl lI
  refine compG_list (L := L) rfl rfl B F2 N2 nd2 hit0 (D0 := Dl) (items := zs.toArray) (e0 := el) (.head _)
    (fun i ws G => i ≤ lf.length ∧ IntsAre ws (((lf.take i).filter (· < j)).map (Nat.cast : Nat → Int)) ∧ G = ((Dl, listOf zs.toArray el) :: (Dst, listOf sts.toArray est) :: (c7, o7) :: (c8, o8) :: (c10, o10) :: (rst ++ G5))) ?J0 ?Jl ?JG ?turn ?fin
  case J0 => exact ⟨Nat.zero_le _, IntsAre.nil, rfl⟩
  case Jl =>
    rintro i fo G ⟨hi, h2, h3⟩
    have := h2.length
    have h4 := List.length_filter_le (fun x => decide (x < j)) (lf.take i)
    rw [List.length_map] at this
    rw [List.length_take] at h4
    omega
  case JG =>
    rintro i fo G ⟨hi, h2, rfl⟩
    exact .head _
  case turn =>
    rintro g₂ C D6 i v ws G oi e6 h7 t7 m7 gg₂ B₂ hi hP ⟨hil, h2, rfl⟩ F7 N7 nd7
    clear F2 N2 F5 N5
    rw [hzl] at hi
    obtain ⟨k, tk, hk, rfl⟩ := ints_nat_at hzs (j := i) (by simpa using hP)
    refine wpAny_tests_one ?_
    by_cases hz : k < j
    · have hz2 : (k : Int) < (j : Int) := by omega
      walk_at "stms"
      show TurnEnd _ _ _ _ _ _ _ _ _ _
      refine ⟨_, _, _, _, rfl, F7, N7, nd7, hi, ?_, rfl⟩
      rw [take_snoc' hk, List.filter_append, show List.filter (fun x => decide (x < j)) [k] = [k] by simp [hz], List.map_append]
      exact ints_app h2 (IntsAre.cons _ _ IntsAre.nil)
    · have hz2 : ¬ (k : Int) < (j : Int) := by omega
      walk_at "stms"
      show TurnEnd _ _ _ _ _ _ _ _ _ _
      refine ⟨_, _, _, _, rfl, F7, N7, nd7, hi, ?_, rfl⟩
      rw [take_snoc' hk, List.filter_append, show List.filter (fun x => decide (x < j)) [k] = [] by simp [hz], List.append_nil]
      exact h2
  case fin =>
    rintro Db ws G eb h t ⟨hil, h2, rfl⟩ F3 N3 nd3
    clear F2 N2 F5 N5
    rw [hzl, List.take_length] at h2
    have hwl : ws.toArray.size = (lf.filter (· < j)).length := by rw [List.size_toArray, h2.length, List.length_map]
    have hfl := List.length_filter_le (fun x => decide (x < j)) lf
    dsimp only [At]
    walk_at "stms"
    all_goals try (exfalso; (with_reducible rename (_ ≠ _) => hbad); exact hbad rfl)
    dsimp only
    exact hQ _ _ G5 F3 (fun p hp => N3 p (.tail _ hp)) (ndt nd3) TG5
end
section
example : True := by w_top off; trivial
def Post13 (w : World) (d : Nat) (fs : Option (List Env)) (gd : Option (List Code)) (u : Nat) (Q : Flow → Shared → Prop) (s : Shared) (g h : Heap) (t : Nat) (L c1 c2 c3 c4 c5 c6 c7 c8 c9 c10 Dr Dh Dl Dst Dw : Addr) (o2 o5 o7 o8 o10 : Obj) (m : Str → Option Value) (rst G : List (Addr × Obj)) (R : List Row) (nR : Nat) (rw ws zs sts wv : List Value) (er eh el est ew : Nat) (lf st : List Nat) (v10 : Option Value) : Prop :=
  ∀ (h : Heap) (t : Nat) (m' : Str → Option Value) (o10 : Obj) (G : List (Addr × Obj)), Fr g L h m' → News g L h ((Dr, listOf (List.toArray rw) er) :: (Dh, listOf (List.toArray ws) eh) :: (Dl, listOf (List.toArray zs) el) :: (Dst, listOf (List.toArray sts) est) :: (Dw, listOf (List.toArray wv) ew) :: (c2, o2) :: (c5, o5) :: (c7, o7) :: (c8, o8) :: (c10, o10) :: (rst ++ G)) → (Dr :: Dh :: Dl :: Dst :: Dw :: c2 :: c5 :: c7 :: c8 :: c10 :: ads (rst ++ G)).Nodup → Tabs G → (∀ y : Str, y ≠ "due" → m' y = m y) →
    wpAny (model P0 w) ⟨none, d, fs, gd, u⟩ (execs ((lawBody w.params).drop 35) (lawEnv w.params L c1 c2 c3 c4 c5 c6 c7 c8 c9 c10)) Q (fun _ _ => False) (At s h t)
abbrev JL17a (g : Heap) (L : Addr) (c2 : Addr) (c5 : Addr) (c7 : Addr) (c8 : Addr) (c10 : Addr) (Dr : Addr) (Dh : Addr) (Dl : Addr) (Dst : Addr) (Dw : Addr) (o2 : Obj) (o5 : Obj) (o7 : Obj) (o8 : Obj) (m : Str → Option Value) (rst : List (Addr × Obj)) (nR : Nat) (rw : List Value) (ws : List Value) (zs : List Value) (sts : List Value) (wv : List Value) (er : Nat) (eh : Nat) (el : Nat) (est : Nat) (ew : Nat) (I : Addr) : Nat → Heap → Prop := fun (j : Nat) (h : Heap) => Ex5 fun (m' : Str → Option Value) (o o10 : Obj) (v10 : Option Value) (G : List (Addr × Obj)) => And7 (Fr g L h m') (News g L h ((I, o) :: (Dr, listOf (List.toArray rw) er) :: (Dh, listOf (List.toArray ws) eh) :: (Dl, listOf (List.toArray zs) el) :: (Dst, listOf (List.toArray sts) est) :: (Dw, listOf (List.toArray wv) ew) :: (c2, o2) :: (c5, o5) :: (c7, o7) :: (c8, o8) :: (c10, o10) :: (rst ++ G))) ((I :: Dr :: Dh :: Dl :: Dst :: Dw :: c2 :: c5 :: c7 :: c8 :: c10 :: ads (rst ++ G)).Nodup) (IsRangeIter h I (0 + (j : Nat) * 1) (((nR + 1 : Nat) : Int) - (j : Nat)) 1) (Tabs G) (o10.data = .cell v10) (∀ y : Str, y ≠ "due" → m' y = m y)
theorem seg13 (hK : PySem.Challenge.rw_pg0241_01 = PySem.Challenge.rw_pg0241_01 ∧ heapK = heapK) {w : World} {d : Nat} {fs : Option (List Env)} {gd : Option (List Code)} {u : Nat} {Q : Flow → Shared → Prop} {s : Shared} {g h : Heap} {t : Nat} {L c1 c2 c3 c4 c5 c6 c7 c8 c9 c10 Dr Dh Dl Dst Dw : Addr} {o2 o5 o7 o8 o10 : Obj} {m : Str → Option Value} {rst G : List (Addr × Obj)} {R : List Row} {nR : Nat} {rw ws zs sts wv : List Value} {er eh el est ew : Nat} {lf st : List Nat} {v10 : Option Value}
  (B : Bs w g) (r : Rm ⟨none, d, fs, gd, u⟩ 80) (GR : GoodR R nR) (hnR : 6 ≤ nR ∧ nR ≤ 11) (TG : Tabs G) (hlf : lf.length ≤ 11) (hlt : ∀ k ∈ lf, k < nR) (hinc : lf.Pairwise (· < ·))
  (hrw : IntsAre rw (lf.map fun k => (Vl R k : Int))) (hws : IntsAre ws (R.map fun r => (r.1 : Int))) (hzs : IntsAre zs (lf.map (Nat.cast : Nat → Int))) (hsts : IntsAre sts (st.map (Nat.cast : Nat → Int))) (hst3 : st.length = 3) (hst4 : ∀ s ∈ st, 2 ≤ s ∧ s ≤ 4) (hwv : wv.length = nR)
  (hforth : ∀ j, j ≤ nR → forthV j st = (lf.filter (· < j)).length)
  (d2 : o2.data = .cell (some (.ref Dw))) (d5 : o5.data = .cell (some (.ref Dh))) (d7 : o7.data = .cell (some (.ref Dst))) (d8 : o8.data = .cell (some (.ref Dl))) (d10 : o10.data = .cell v10)
  (F : Fr g L h m) (N : News g L h ((Dr, listOf (List.toArray rw) er) :: (Dh, listOf (List.toArray ws) eh) :: (Dl, listOf (List.toArray zs) el) :: (Dst, listOf (List.toArray sts) est) :: (Dw, listOf (List.toArray wv) ew) :: (c2, o2) :: (c5, o5) :: (c7, o7) :: (c8, o8) :: (c10, o10) :: (rst ++ G))) (nd : (Dr :: Dh :: Dl :: Dst :: Dw :: c2 :: c5 :: c7 :: c8 :: c10 :: ads (rst ++ G)).Nodup)
  (hm1 : m "row" = some (.ref Dr))
  (hQ : Post13 w d fs gd u Q s g h t L c1 c2 c3 c4 c5 c6 c7 c8 c9 c10 Dr Dh Dl Dst Dw o2 o5 o7 o8 o10 m rst G R nR rw ws zs sts wv er eh el est ew lf st v10) :
  wpAny (model P0 w) ⟨none, d, fs, gd, u⟩ (execs ((lawBody w.params).drop 34) (lawEnv w.params L c1 c2 c3 c4 c5 c6 c7 c8 c9 c10)) Q (fun _ _ => False) (At s h t) := by
  revert hK; k_fill; intro hK; clear hK
  obtain ⟨p, loose, mean, mg, mb, T⟩ := B.T
  have X := B.X
  have hwl : wv.toArray.size = nR := by rw [List.size_toArray]; exact hwv
  have hzl : zs.toArray.size = lf.length := by rw [List.size_toArray, hzs.length, List.length_map]
  dsimp only [At]
  rw [show (lawBody w.params).drop 34 = (Stmt.For _ _ ((mbody w.params).drop 0) [] _) :: (lawBody w.params).drop 35 from rfl]
  walk_at "stms"
  refine wpAny_For ?_
  walk_at "stms"
  with_reducible rename Fr _ _ _ _ => Fx
  with_reducible rename News _ _ _ _ => Nx
  with_reducible rename IsRange _ _ _ _ _ _ _ _ => hrg
  refine iterRange (n := nR + 1) Fx Nx hrg (by omega) (by decide) (by omega) (fun I h2 o0 F2 N2 lI hit0 => ?_)
  have nd2 : (I :: Dr :: Dh :: Dl :: Dst :: Dw :: c2 :: c5 :: c7 :: c8 :: c10 :: ads (rst ++ G)).Nodup := nd_cons nd rfl lI
  clear Fx Nx
  refine forW (Walks.range rfl I 0 1 (nR + 1))
    (JL17a g L c2 c5 c7 c8 c10 Dr Dh Dl Dst Dw o2 o5 o7 o8 m rst nR rw ws zs sts wv er eh el est ew I)
    ?hJ ?h0 ?turn ?fin ?ht
  case ht => intro _; rfl
  case hJ =>
    rintro j h ⟨m', o, o10, v10, G, F, N, nd, hit, _⟩
    exact hit
  case h0 =>
    refine' ⟨_, o0, o10, v10, G, F2, N2, nd2, ?q1, TG, d10, ?q3⟩
    case q1 => simpa using hit0
    case q3 => intro y _; rfl
  case turn =>
    clear F2 N2 nd2 hit0 d10
    rintro j v h h' t hj hP ⟨m', o, o10, v10, G, F, N, ndi, hit, TG, d10, hme⟩ hk hst
    obtain ⟨F, N⟩ := iter_turn F N ndi hk hst
    obtain ⟨tv, rfl⟩ := hP
    rw [show (0 : Int) + (j : Nat) * 1 = ((j : Nat) : Int) by omega]
    have g1 : m' "row" = some (.ref Dr) := (hme _ (by decide)).trans hm1
    have hfo := hforth j (by omega)
    dsimp only [At]
    walk_at "stms"
    with_reducible rename Fr _ _ _ _ => Fx
    with_reducible rename News _ _ _ _ => Nx
    with_reducible rename (Obj.data _ = _) => d10b
    with_reducible rename Obj => o10b
    have N1 : News g L _ ((Dr, listOf (List.toArray rw) er) :: (Dh, listOf (List.toArray ws) eh) :: (c5, o5) :: (c10, o10b) :: ((I, ({ cls := Value.type "range_iterator", data := Data.fields #[rawInt (0 + ((j + 1 : Nat) : Int) * 1), rawInt (((nR + 1 : Nat) : Int) - ((j + 1 : Nat) : Int)), rawInt 1] } : Obj)) :: (Dl, listOf (List.toArray zs) el) :: (Dst, listOf (List.toArray sts) est) :: (Dw, listOf (List.toArray wv) ew) :: (c2, o2) :: (c7, o7) :: (c8, o8) :: (rst ++ G))) := news_pick (pre := [(I, ({ cls := Value.type "range_iterator", data := Data.fields #[rawInt (0 + ((j + 1 : Nat) : Int) * 1), rawInt (((nR + 1 : Nat) : Int) - ((j + 1 : Nat) : Int)), rawInt 1] } : Obj)), (Dr, listOf (List.toArray rw) er), (Dh, listOf (List.toArray ws) eh), (Dl, listOf (List.toArray zs) el), (Dst, listOf (List.toArray sts) est), (Dw, listOf (List.toArray wv) ew), (c2, o2), (c5, o5), (c7, o7), (c8, o8), (c10, o10b)]) (tail := rst ++ G) (is := [1, 2, 7, 10, 0, 3, 4, 5, 6, 8, 9]) Nx
    have nd1 : (Dr :: Dh :: c5 :: c10 :: ads ((I, ({ cls := Value.type "range_iterator", data := Data.fields #[rawInt (0 + ((j + 1 : Nat) : Int) * 1), rawInt (((nR + 1 : Nat) : Int) - ((j + 1 : Nat) : Int)), rawInt 1] } : Obj)) :: (Dl, listOf (List.toArray zs) el) :: (Dst, listOf (List.toArray sts) est) :: (Dw, listOf (List.toArray wv) ew) :: (c2, o2) :: (c7, o7) :: (c8, o8) :: (rst ++ G))).Nodup := nd_pick (pre := [(I, ({ cls := Value.type "range_iterator", data := Data.fields #[rawInt (0 + ((j + 1 : Nat) : Int) * 1), rawInt (((nR + 1 : Nat) : Int) - ((j + 1 : Nat) : Int)), rawInt 1] } : Obj)), (Dr, listOf (List.toArray rw) er), (Dh, listOf (List.toArray ws) eh), (Dl, listOf (List.toArray zs) el), (Dst, listOf (List.toArray sts) est), (Dw, listOf (List.toArray wv) ew), (c2, o2), (c5, o5), (c7, o7), (c8, o8), (c10, o10b)]) (tail := rst ++ G) (is := [1, 2, 7, 10, 0, 3, 4, 5, 6, 8, 9]) ndi (by decide)
    clear Nx ndi
    refine segm1 ⟨rfl, rfl⟩ (s := s) (lf := lf) (j := j) B r GR hnR hlf hlt hinc (by omega) hrw hws d5 d10b Fx N1 g1 ?_
    intro h3 t3 m3 td F3 N3 e1 hme3
    have N4 : News g L h3 ((Dl, listOf (List.toArray zs) el) :: (Dst, listOf (List.toArray sts) est) :: (c7, o7) :: (c8, o8) :: (c10, o10b) :: (((Dr, listOf (List.toArray rw) er) :: (Dh, listOf (List.toArray ws) eh) :: (c5, o5) :: (I, ({ cls := Value.type "range_iterator", data := Data.fields #[rawInt (0 + ((j + 1 : Nat) : Int) * 1), rawInt (((nR + 1 : Nat) : Int) - ((j + 1 : Nat) : Int)), rawInt 1] } : Obj)) :: (Dw, listOf (List.toArray wv) ew) :: (c2, o2) :: rst) ++ G)) := news_pick (pre := [(Dr, listOf (List.toArray rw) er), (Dh, listOf (List.toArray ws) eh), (c5, o5), (c10, o10b), (I, ({ cls := Value.type "range_iterator", data := Data.fields #[rawInt (0 + ((j + 1 : Nat) : Int) * 1), rawInt (((nR + 1 : Nat) : Int) - ((j + 1 : Nat) : Int)), rawInt 1] } : Obj)), (Dl, listOf (List.toArray zs) el), (Dst, listOf (List.toArray sts) est), (Dw, listOf (List.toArray wv) ew), (c2, o2), (c7, o7), (c8, o8)]) (tail := rst ++ G) (is := [5, 6, 9, 10, 3, 0, 1, 2, 4, 7, 8]) N3
    have nd4 : (Dl :: Dst :: c7 :: c8 :: c10 :: ads (((Dr, listOf (List.toArray rw) er) :: (Dh, listOf (List.toArray ws) eh) :: (c5, o5) :: (I, ({ cls := Value.type "range_iterator", data := Data.fields #[rawInt (0 + ((j + 1 : Nat) : Int) * 1), rawInt (((nR + 1 : Nat) : Int) - ((j + 1 : Nat) : Int)), rawInt 1] } : Obj)) :: (Dw, listOf (List.toArray wv) ew) :: (c2, o2) :: rst) ++ G)).Nodup := nd_pick (pre := [(Dr, listOf (List.toArray rw) er), (Dh, listOf (List.toArray ws) eh), (c5, o5), (c10, o10b), (I, ({ cls := Value.type "range_iterator", data := Data.fields #[rawInt (0 + ((j + 1 : Nat) : Int) * 1), rawInt (((nR + 1 : Nat) : Int) - ((j + 1 : Nat) : Int)), rawInt 1] } : Obj)), (Dl, listOf (List.toArray zs) el), (Dst, listOf (List.toArray sts) est), (Dw, listOf (List.toArray wv) ew), (c2, o2), (c7, o7), (c8, o8)]) (tail := rst ++ G) (is := [5, 6, 9, 10, 3, 0, 1, 2, 4, 7, 8]) nd1 (by decide)
    clear N1 nd1 N3
    refine segm2 ⟨rfl, rfl⟩ (s := s) (lf := lf) (st := st) (j := j) (nR := nR) B r TG hnR.2 (by omega) hlf hzs hsts hst4 hfo d7 d8 d10b F3 N4 nd4 e1 ?_
    intro h5 t5 G5 F5 N5 nd5 TG5
    have N6 : News g L h5 ((I, ({ cls := Value.type "range_iterator", data := Data.fields #[rawInt (0 + ((j + 1 : Nat) : Int) * 1), rawInt (((nR + 1 : Nat) : Int) - ((j + 1 : Nat) : Int)), rawInt 1] } : Obj)) :: (Dr, listOf (List.toArray rw) er) :: (Dh, listOf (List.toArray ws) eh) :: (Dl, listOf (List.toArray zs) el) :: (Dst, listOf (List.toArray sts) est) :: (Dw, listOf (List.toArray wv) ew) :: (c2, o2) :: (c5, o5) :: (c7, o7) :: (c8, o8) :: (c10, o10b) :: (rst ++ G5)) := news_pick (pre := [(Dl, listOf (List.toArray zs) el), (Dst, listOf (List.toArray sts) est), (c7, o7), (c8, o8), (c10, o10b), (Dr, listOf (List.toArray rw) er), (Dh, listOf (List.toArray ws) eh), (c5, o5), (I, ({ cls := Value.type "range_iterator", data := Data.fields #[rawInt (0 + ((j + 1 : Nat) : Int) * 1), rawInt (((nR + 1 : Nat) : Int) - ((j + 1 : Nat) : Int)), rawInt 1] } : Obj)), (Dw, listOf (List.toArray wv) ew), (c2, o2)]) (tail := rst ++ G5) (is := [8, 5, 6, 0, 1, 9, 10, 7, 2, 3, 4]) N5
    have nd6 : (I :: Dr :: Dh :: Dl :: Dst :: Dw :: c2 :: c5 :: c7 :: c8 :: c10 :: ads (rst ++ G5)).Nodup := nd_pick (pre := [(Dl, listOf (List.toArray zs) el), (Dst, listOf (List.toArray sts) est), (c7, o7), (c8, o8), (c10, o10b), (Dr, listOf (List.toArray rw) er), (Dh, listOf (List.toArray ws) eh), (c5, o5), (I, ({ cls := Value.type "range_iterator", data := Data.fields #[rawInt (0 + ((j + 1 : Nat) : Int) * 1), rawInt (((nR + 1 : Nat) : Int) - ((j + 1 : Nat) : Int)), rawInt 1] } : Obj)), (Dw, listOf (List.toArray wv) ew), (c2, o2)]) (tail := rst ++ G5) (is := [8, 5, 6, 0, 1, 9, 10, 7, 2, 3, 4]) nd5 (by decide)
    (show wpAny _ _ (execs [] _) _ _ _)
    refine wpAny_execs_nil ?_
    dsimp only
    refine' ⟨_, _, rfl, m3, _, o10b, _, G5, F5, N6, nd6, ?q1, TG5, d10b, ?q3⟩
    case q1 => exact (N6 _ (.head _)).1
    case q3 =>
      intro y h1
      exact (hme3 y h1).trans (hme y h1)
  case fin =>
    rintro h h' t ⟨m', o, o10, v10, G, F, N, ndi, hit, TG, d10, hme⟩ hk
    obtain ⟨F, N⟩ := iter_end F N ndi hk
    clear F2 N2 nd2
    dsimp only [At]
    walk_at "stms"
    exact hQ _ _ _ o10 G F N (ndt ndi) TG hme
end
section
example : True := by w_top off; trivial
def endT : List Str := [strOf [122], strOf [], strOf []]
def Post14 (w : World) (d : Nat) (fs : Option (List Env)) (gd : Option (List Code)) (u : Nat) (Q : Flow → Shared → Prop) (s : Shared) (g h : Heap) (t : Nat) (L c1 c2 c3 c4 c5 c6 c7 c8 c9 c10 x dx l f1 dd f2 cell Ds : Addr) (a1 a2 a3 a4 a5 tn : Tok) (n : Int) (fo od co ro o3 : Obj) (k1 k2 : Addr) (lo1 lo2 : Obj) (m : Str → Option Value) (rst : List (Addr × Obj)) (us : List Value) (e el tot : Nat) (pre : List Nat) : Prop :=
  ∀ (h : Heap) (t : Nat) (tn : Tok) (us : List Value) (e : Nat), Fr g L h m → News g L h ((x, instObj 112 dx) :: (dx, lexD w.params a1 a2 a3 a4 a5 (tot : Int) tn f1 l) :: (l, listOf #[] el) :: (f1, fo) :: (dd, od) :: (f2, ro) :: (cell, co) :: (Ds, listOf (List.toArray us) e) :: (c3, o3) :: (rst ++ lamG k1 k2 lo1 lo2)) → (x :: dx :: l :: f1 :: dd :: f2 :: cell :: Ds :: c3 :: ads (rst ++ lamG k1 k2 lo1 lo2)).Nodup →
    wpAny (model P0 w) ⟨none, d, fs, gd, u⟩ (execs ((lawBody w.params).drop 36) (lawEnv w.params L c1 c2 c3 c4 c5 c6 c7 c8 c9 c10)) Q (fun _ _ => False) (At s h t)
abbrev JL18a (w : World) (c3 : Addr) (x : Addr) (dx : Addr) (l : Addr) (f1 : Addr) (dd : Addr) (f2 : Addr) (cell : Addr) (Ds : Addr) (a1 : Tok) (a2 : Tok) (a3 : Tok) (a4 : Tok) (a5 : Tok) (fo : Obj) (od : Obj) (co : Obj) (ro : Obj) (o3 : Obj) (k1 : Addr) (k2 : Addr) (lo1 : Obj) (lo2 : Obj) (rst : List (Addr × Obj)) (el : Nat) (tot : Nat) (pre : List Nat) : Nat → List Value → List (Addr × Obj) → Prop := fun (i : Nat) (ys : List Value) (G : List (Addr × Obj)) => Ex5 fun (cs : List Nat) (n : Int) (tn : Tok) (us : List Value) (e : Nat) => And7 (i ≤ 3) (cs = (if i = 0 then pre ++ [122] else [])) (Chs us cs) (n + (cs.count 10 : Nat) = (tot : Int)) (0 ≤ n) (StrsAre ys (endT.take i)) (G = ((x, instObj 112 dx) :: (dx, lexD w.params a1 a2 a3 a4 a5 n tn f1 l) :: (l, listOf #[] el) :: (f1, fo) :: (dd, od) :: (f2, ro) :: (cell, co) :: (Ds, listOf (List.toArray us) e) :: (c3, o3) :: (rst ++ lamG k1 k2 lo1 lo2)))
theorem seg14 (hK : PySem.Challenge.rw_pg0241_01 = PySem.Challenge.rw_pg0241_01 ∧ heapK = heapK) {w : World} {d : Nat} {fs : Option (List Env)} {gd : Option (List Code)} {u : Nat} {Q : Flow → Shared → Prop} {s : Shared} {g h : Heap} {t : Nat} {L c1 c2 c3 c4 c5 c6 c7 c8 c9 c10 x dx l f1 dd f2 cell Ds : Addr} {a1 a2 a3 a4 a5 tn : Tok} {n : Int} {fo od co ro o3 : Obj} {k1 k2 : Addr} {lo1 lo2 : Obj} {m : Str → Option Value} {rst : List (Addr × Obj)} {us : List Value} {e el tot : Nat} {pre : List Nat}
  (B : Bs w g) (r : Rm ⟨none, d, fs, gd, u⟩ 80) (M : Stm Ds f1 dd f2 cell fo od co k2 ro) (TL : LamTab k1 k2 lo1 lo2) (hpre : Pre pre) (hch : Chs us (pre ++ [122])) (hn0 : 0 ≤ n) (hcn : n + ((pre ++ [122]).count 10 : Nat) = (tot : Int)) (htot : tot ≤ 200)
  (d3 : o3.data = .cell (some (.ref x)))
  (F : Fr g L h m) (N : News g L h ((x, instObj 112 dx) :: (dx, lexD w.params a1 a2 a3 a4 a5 n tn f1 l) :: (l, listOf #[] el) :: (f1, fo) :: (dd, od) :: (f2, ro) :: (cell, co) :: (Ds, listOf (List.toArray us) e) :: (c3, o3) :: (rst ++ lamG k1 k2 lo1 lo2))) (nd : (x :: dx :: l :: f1 :: dd :: f2 :: cell :: Ds :: c3 :: ads (rst ++ lamG k1 k2 lo1 lo2)).Nodup)
  (hQ : Post14 w d fs gd u Q s g h t L c1 c2 c3 c4 c5 c6 c7 c8 c9 c10 x dx l f1 dd f2 cell Ds a1 a2 a3 a4 a5 tn n fo od co ro o3 k1 k2 lo1 lo2 m rst us e el tot pre) :
  wpAny (model P0 w) ⟨none, d, fs, gd, u⟩ (execs ((lawBody w.params).drop 35) (lawEnv w.params L c1 c2 c3 c4 c5 c6 c7 c8 c9 c10)) Q (fun _ _ => False) (At s h t) := by
  revert hK; k_fill; intro hK; clear hK
  obtain ⟨p, loose, mean, mg, mb, T⟩ := B.T
  have X := B.X
  dsimp only [At]
  (rw [show (lawBody w.params).drop 35 = stm w.params 35 :: (lawBody w.params).drop 36 from rfl]; conv in (stm w.params 35) => whnf)
  walk_at "stms"
  refine compE (cl := [("reader", c3)]) (by rfl) (by decide) rfl (by decide) (by decide) ?_
  walk_at "stms"
  with_reducible rename Fr _ _ _ _ => Fx
  with_reducible rename News _ _ _ _ => Nx
  with_reducible rename IsRange _ _ _ _ _ _ _ _ => hrg
  refine iterRange (n := 3) Fx Nx hrg (by omega) (by decide) (by omega) (fun I h2 o0 F2 N2 lI hit0 => ?_)
  have nd2 := nd_cons nd rfl lI
  clear Fx Nx
  refine compG_range (L := L) (a := 0) (n := 3) rfl rfl B F2 N2 nd2 hit0
    (JL18a w c3 x dx l f1 dd f2 cell Ds a1 a2 a3 a4 a5 fo od co ro o3 k1 k2 lo1 lo2 rst el tot pre) ?J0 ?Jl ?turn ?fin
  case J0 => exact ⟨pre ++ [122], n, tn, us, e, by decide, rfl, hch, hcn, hn0, StrsAre.nil, rfl⟩
  case Jl =>
    rintro i ys G ⟨cs, n, tn, us, e, h0, h1, h2, h3, h4, h5, h6⟩
    rw [StrsAre.len h5, List.length_take]; omega
  case turn =>
    rintro g₂ C D i v ys G o' e3 h t m' gg₂ B₂ hi hP ⟨cs, n, tn, us, e, h0, h1, h2, h3, h4, h5, rfl⟩ F3 N3 nd3
    clear F2 N2
    obtain ⟨tok, hT, htk⟩ : ∃ tok, T0 cs tok [] ∧ endT[i]? = some (strOf tok) := by
      by_cases hi0 : i = 0
      · subst hi0; rw [if_pos rfl] at h1; subst h1; exact ⟨[122], t0_end hpre, rfl⟩
      · rw [if_neg hi0] at h1; subst h1
        refine ⟨[], T0.stop, ?_⟩
        have : i = 1 ∨ i = 2 := by omega
        rcases this with rfl | rfl <;> rfl
    have hal : ∀ c ∈ cs, c ∈ alpha := by
      intro c hc
      rw [h1] at hc
      split at hc
      · exact (List.mem_append.mp hc).elim (pre_alpha hpre c) fun h => by rw [List.mem_singleton.mp h]; decide
      · cases hc
    have hlen : cs.length ≤ 2 := by
      rw [h1]
      split
      · rw [List.length_append, List.length_singleton]; have := pre_len hpre; omega
      · simp
    refine wpAny_tests_nil ?_
    rw [if_pos rfl]
    obtain ⟨p₂, loose₂, mean₂, mg₂, mb₂, T₂⟩ := B₂.T
    have X₂ := B₂.X
    walk_at "stms"
    refine wpAny_call (get_read_ok ⟨rfl, rfl⟩ (S := Ds) (d := dd) (cell := cell) (f2 := f2) (l := l) (f1 := f1) (dx := dx) (x := x) B₂ F3.keep (r.less (by omega)) (own_of_news N3 fun p hp => .tail _ (.tail _ (List.mem_append_left _ hp))) (List.Nodup.sublist (List.sublist_append_left [x, dx, l, f1, dd, f2, cell, Ds] _) (ndt (ndt nd3))) M (lam_code TL N3 fun p hp => ?_) (by rw [h2.len]; omega) h2 hT hal (by omega) h4 (by omega) (fun hp5 t5 tt5 n5 tn5 us5 e5 hch5 hn5 k5 O5 => ?_))
    · exact List.mem_append_right ((I, o') :: (D, listOf ys.toArray e3) :: (x, instObj 112 dx) :: (dx, lexD w.params a1 a2 a3 a4 a5 n tn f1 l) :: (l, listOf #[] el) :: (f1, fo) :: (dd, od) :: (f2, ro) :: (cell, co) :: (Ds, listOf us.toArray e) :: (c3, o3) :: rst) hp
    obtain ⟨F5, N5⟩ := after_put [3, 9] F3 N3 nd3 rfl rfl k5 O5 rfl rfl
    replace N5 : News g₂ C hp5 ((I, o') :: (D, listOf ys.toArray e3) :: ((x, instObj 112 dx) :: (dx, lexD w.params a1 a2 a3 a4 a5 n5 tn5 f1 l) :: (l, listOf #[] el) :: (f1, fo) :: (dd, od) :: (f2, ro) :: (cell, co) :: (Ds, listOf (List.toArray us5) e5) :: (c3, o3) :: (rst ++ lamG k1 k2 lo1 lo2))) := N5
    show TurnEnd _ _ _ _ _ _ _ _ _ _
    rw [List.count_nil] at hn5
    refine ⟨_, _, _, _, rfl, F5, N5, nd3, [], n5, tn5, us5, e5, hi, (if_neg (by omega)).symm, hch5, ?_, ?_, ?_, rfl⟩
    · rw [List.count_nil]; omega
    · omega
    · rw [take_snoc' htk]
      exact StrsAre.snoc h5
  case fin =>
    rintro D ys G e4 h t ⟨cs, n, tn, us, e, h0, h1, h2, h3, h4, h5, rfl⟩ F3 N3 nd3
    clear F2 N2
    rw [if_neg (by decide)] at h1
    subst h1
    rw [List.count_nil] at h3
    obtain rfl : n = (tot : Int) := by omega
    dsimp only [At]
    walk_at "stms"
    with_reducible rename Fr _ _ _ _ => Fy
    with_reducible rename News _ _ _ _ => Ny
    with_reducible rename List.Nodup _ => ndy
    rw [show Str.ofString "z" = strOf [122] from by decide +kernel, show Str.ofString "" = strOf [] from em_eq] at Ny
    have hok : ∀ z ∈ endT, PyData.strOk z = true := by decide +kernel
    refine kt_ne (ns := endT) (ms := endT) (News.isList Ny (.tail _ (.head _))) (News.isList Ny (.head _)) h5 (StrsAre.cons _ _ (StrsAre.cons _ _ (StrsAre.cons _ _ StrsAre.nil))) hok hok (Rm.u64 r) ?_
    rw [decide_eq_true rfl]
    walk_at "stms"
    exact hQ _ _ tn us e Fy (fun p hp => Ny p (.tail _ (.tail _ hp))) (ndt (ndt ndy))
end
section
example : True := by w_top off; trivial
/-! the plain law: finite -/
def lawS (n : Nat) (st : List Nat) : Bool :=
  let q := runS n st
  decide (((q.2.2.1 ++ (List.range q.1.length).map (fun i => ((3 : Nat), i + 1))).map fun p : Nat × Nat => backV p.2 (st.take p.1).reverse) = (q.2.1 ++ q.1).map (· + 1)) && (List.range (n + 1)).all fun j => forthV j st == (q.1.filter (· < j)).length
theorem lawS_all : ∀ n ∈ List.range' 6 6, ∀ st ∈ steps3, st.length = 3 → lawS n st = true := by decide +kernel
theorem lawS_of {n : Nat} {st : List Nat} (hn : 6 ≤ n ∧ n ≤ 11) (hl : st.length = 3) (hs : ∀ s ∈ st, 2 ≤ s ∧ s ≤ 4) :
    (((runS n st).2.2.1 ++ (List.range (runS n st).1.length).map (fun i => ((3 : Nat), i + 1))).map fun p : Nat × Nat => backV p.2 (st.take p.1).reverse) = ((runS n st).2.1 ++ (runS n st).1).map (· + 1) ∧ ∀ j, j ≤ n → forthV j st = ((runS n st).1.filter (· < j)).length := by
  have h := lawS_all n (by rw [List.mem_range'_1]; omega) st (mem_steps (by omega) hs) hl
  unfold lawS at h
  simp only [Bool.and_eq_true, decide_eq_true_eq, List.all_eq_true, List.mem_range, beq_iff_eq] at h
  exact ⟨h.1, fun j hj => h.2 j (by omega)⟩
end
section
example : True := by w_top off; trivial
theorem nl_count (tx : List Nat) : Txt.count (strOf tx) (Str.ofString "\n") = ((tx.count 10 : Nat) : Int) := by
  rw [show Str.ofString "\n" = ⟨#[10]⟩ from nl_eq, count_cnt]
  show cnt 10 tx = _
  induction tx with
  | nil => rfl
  | cons c tx ih =>
    rw [List.count_cons, cnt_cons, ih]
    by_cases h : c = 10
    · subst h; simp; omega
    · simp [h]
theorem seg15 (hK : PySem.Challenge.rw_pg0241_01 = PySem.Challenge.rw_pg0241_01 ∧ heapK = heapK) {w : World} {d : Nat} {fs : Option (List Env)} {gd : Option (List Code)} {u : Nat} {Q : Flow → Shared → Prop} {s : Shared} {g h : Heap} {t : Nat} {L c1 c2 c3 c4 c5 c6 c7 c8 c9 c10 x dx l f1 : Addr} {a1 a2 a3 a4 a5 tn tt : Tok} {o3 : Obj} {m : Str → Option Value} {rst : List (Addr × Obj)} {tx : List Nat}
  (B : Bs w g) (r : Rm ⟨none, d, fs, gd, u⟩ 80) (hl : tx.length ≤ 101)
  (d3 : o3.data = .cell (some (.ref x)))
  (F : Fr g L h m) (N : News g L h ((x, instObj 112 dx) :: (dx, lexD w.params a1 a2 a3 a4 a5 ((1 + tx.count 10 : Nat) : Int) tn f1 l) :: (c3, o3) :: rst))
  (hm1 : m "text" = some (.str (strOf tx) tt))
  (hQ : ∀ (t : Nat), Q (.ret (.bool true)) (At s h t)) :
  wpAny (model P0 w) ⟨none, d, fs, gd, u⟩ (execs ((lawBody w.params).drop 36) (lawEnv w.params L c1 c2 c3 c4 c5 c6 c7 c8 c9 c10)) Q (fun _ _ => False) (At s h t) := by
  revert hK; k_fill; intro hK; clear hK
  obtain ⟨p, loose, mean, mg, mb, T⟩ := B.T
  have X := B.X
  have hlt : (strOf tx).length ≤ 101 := by show tx.toArray.size ≤ 101; rw [List.size_toArray]; exact hl
  dsimp only [At]
  (rw [show (lawBody w.params).drop 36 = stm w.params 36 :: (lawBody w.params).drop 37 from rfl]; conv in (stm w.params 36) => whnf)
  walk_at "stms"
  rw [nl_count]
  have e : (((1 + tx.count 10 : Nat) : Int) == (tx.count 10 : Nat) + 1) = true := by
    rw [beq_iff_eq]; omega
  rw [e]
  exact hQ _
end
section
example : True := by w_top off; trivial
/-! a ledger of blocks in another order -/
def cat : List (List (Addr × Obj)) → List (Addr × Obj)
  | [] => []
  | [b] => b
  | b :: c :: r => b ++ cat (c :: r)
theorem cat_cons (b : List (Addr × Obj)) (r : List (List (Addr × Obj))) : cat (b :: r) = b ++ cat r := by
  cases r with
  | nil => exact (List.append_nil b).symm
  | cons c r => rfl
theorem cat_mem {p : Addr × Obj} {bs : List (List (Addr × Obj))} : p ∈ cat bs ↔ ∃ b ∈ bs, p ∈ b := by
  induction bs with
  | nil => constructor
           · intro h; cases h
           · rintro ⟨_, h, _⟩; cases h
  | cons b r ih =>
    rw [cat_cons, List.mem_append, ih]
    constructor
    · rintro (h | ⟨c, hc, h⟩)
      · exact ⟨b, .head _, h⟩
      · exact ⟨c, .tail _ hc, h⟩
    · rintro ⟨c, hc, h⟩
      rcases List.mem_cons.mp hc with rfl | hc
      · exact .inl h
      · exact .inr ⟨c, hc, h⟩
theorem cat_at {bs : List (List (Addr × Obj))} (nd : ((cat bs).map (·.1)).Nodup) : ∀ {i j : Nat} {b c : List (Addr × Obj)}, bs[i]? = some b → bs[j]? = some c → i ≠ j → ∀ x ∈ b, ∀ y ∈ c, x.1 ≠ y.1 := by
  induction bs with
  | nil => intro i j b c h; cases h
  | cons d r ih =>
    rw [cat_cons, List.map_append, List.nodup_append] at nd
    intro i j b c hb hc hij x hx y hy
    cases i with
    | zero =>
      cases j with
      | zero => exact absurd rfl hij
      | succ j =>
        cases hb
        exact nd.2.2 _ (List.mem_map_of_mem hx) _ (List.mem_map_of_mem (cat_mem.mpr ⟨c, List.mem_of_getElem? (l := r) hc, hy⟩))
    | succ i =>
      cases j with
      | zero =>
        cases hc
        exact fun e => nd.2.2 _ (List.mem_map_of_mem hy) _ (List.mem_map_of_mem (cat_mem.mpr ⟨b, List.mem_of_getElem? (l := r) hb, hx⟩)) e.symm
      | succ j => exact ih nd.2.1 (i := i) (j := j) hb hc (fun e => hij (congrArg Nat.succ e)) x hx y hy
theorem cat_blk {bs : List (List (Addr × Obj))} (nd : ((cat bs).map (·.1)).Nodup) : ∀ b ∈ bs, (b.map (·.1)).Nodup := by
  induction bs with
  | nil => intro b h; cases h
  | cons d r ih =>
    rw [cat_cons, List.map_append, List.nodup_append] at nd
    intro b hb
    rcases List.mem_cons.mp hb with rfl | hb
    · exact nd.1
    · exact ih nd.2.1 b hb
theorem nd_blk {bs : List (List (Addr × Obj))} (is : List Nat) (nd : ((cat bs).map (·.1)).Nodup) (hi : is.Nodup) : ((cat (is.filterMap (bs[·]?))).map (·.1)).Nodup := by
  induction is with
  | nil => exact List.nodup_nil
  | cons i is ih =>
    have h2 := List.nodup_cons.mp hi
    rw [List.filterMap_cons]
    cases e : bs[i]? with
    | none => exact ih h2.2
    | some b =>
      show ((cat (b :: is.filterMap (bs[·]?))).map (·.1)).Nodup
      rw [cat_cons, List.map_append, List.nodup_append]
      refine ⟨cat_blk nd b (List.mem_of_getElem? e), ih h2.2, fun x hx y hy => ?_⟩
      obtain ⟨p, hp, rfl⟩ := List.mem_map.mp hx
      obtain ⟨q, hq, rfl⟩ := List.mem_map.mp hy
      obtain ⟨c, hc, hqc⟩ := cat_mem.mp hq
      obtain ⟨j, hj, ej⟩ := List.mem_filterMap.mp hc
      exact cat_at nd e ej (fun e => h2.1 (e ▸ hj)) p hp q hqc
theorem news_blk {g h : Heap} {L : Addr} {bs : List (List (Addr × Obj))} (is : List Nat) (N : News g L h (cat bs)) : News g L h (cat (is.filterMap (bs[·]?))) := fun p hp => by
  obtain ⟨b, hb, hpb⟩ := cat_mem.mp hp
  obtain ⟨i, _, ei⟩ := List.mem_filterMap.mp hb
  exact N p (cat_mem.mpr ⟨b, List.mem_of_getElem? ei, hpb⟩)
end
section
example : True := by w_top off; trivial
theorem law_body (hK : PySem.Challenge.rw_pg0241_01 = PySem.Challenge.rw_pg0241_01 ∧ heapK = heapK) {w : World} {d : Nat} {fs : Option (List Env)} {gd : Option (List Code)} {u : Nat} {Q : Flow → Shared → Prop} {s : Shared} {g h : Heap} {t : Nat} {L S c1 c2 c3 c4 c5 c6 c7 c8 c9 c10 : Addr} {o1 o2 o3 o4 o5 o6 o7 o8 o9 o10 : Obj} {m : Str → Option Value} {vs : List Value} {ns : List Int} {G : List (Addr × Obj)}
  (B : Bs w g) (r : Rm ⟨none, d, fs, gd, u⟩ 80) (hS : g.IsList S vs.toArray) (hits : IntsAre vs ns) (hn63 : ns.length ≤ 63) (hm1 : m "script" = some (.ref S)) (TG : Tabs G)
  (d1 : o1.data = .cell none) (d2 : o2.data = .cell none) (d3 : o3.data = .cell none) (d4 : o4.data = .cell none) (d5 : o5.data = .cell none) (d6 : o6.data = .cell none) (d7 : o7.data = .cell none) (d8 : o8.data = .cell none) (d9 : o9.data = .cell none) (d10 : o10.data = .cell none)
  (F : Fr g L h m) (N : News g L h ((c1, o1) :: (c2, o2) :: (c3, o3) :: (c4, o4) :: (c5, o5) :: (c6, o6) :: (c7, o7) :: (c8, o8) :: (c9, o9) :: (c10, o10) :: (G ++ ((118, tabObj #[]) :: [])))) (nd : (c1 :: c2 :: c3 :: c4 :: c5 :: c6 :: c7 :: c8 :: c9 :: c10 :: ads ((G ++ ((118, tabObj #[]) :: [])))).Nodup)
  (hQ : ∀ (h : Heap) (t : Nat) (m : Str → Option Value) (G : List (Addr × Obj)) (k1 k2 : Addr) (lo1 lo2 : Obj), Fr g L h m → News g L h (G ++ lamG k1 k2 lo1 lo2) → Tabs G → Q (.ret (.bool true)) (At s h t)) :
  wpAny (model P0 w) ⟨none, d, fs, gd, u⟩ (execs ((lawBody w.params).drop 0) (lawEnv w.params L c1 c2 c3 c4 c5 c6 c7 c8 c9 c10)) Q (fun _ _ => False) (At s h t) := by
  refine seg1 ⟨rfl, rfl⟩ (s := s) B r hS hits hn63 hm1 d1 d2 F N nd ?_
  clear F N nd hm1 d1 d2
  rintro h t m Dv Dw o1 o2 R vv wv ev ew tt tl ⟨nR, GR, hnR⟩ F N nd d1 d2 hm1 hm2 hvv hwv
  have htl : (textOf R).length ≤ 99 := by
    have h1 := text_le (R := R) fun r hr => by have := (GR.le r hr).1; omega
    rw [GR.len] at h1
    omega
  refine seg2 ⟨rfl, rfl⟩ (s := s) (rest := (c4, o4) :: (c5, o5) :: (c6, o6) :: (c7, o7) :: (c8, o8) :: (c9, o9) :: (c10, o10) :: G) B r d3 F N nd hm1 hm2 (text_alpha R) (by omega) ?_
  clear F N nd hm1 hm2 d3
  intro h t m x dx l f1 dd f2 cell Ds a1 a2 a3 a4 a5 tn fo od co ro k1 k2 lo1 lo2 o3 sg e tt M TL hch F N nd d3 hm1 hm2 hm3
  refine seg3 ⟨rfl, rfl⟩ (s := s) (rest := (c4, o4) :: (c5, o5) :: (c6, o6) :: (c7, o7) :: (c8, o8) :: (c9, o9) :: (c10, o10) :: G) B r M TL hch GR hnR d2 d3 hwv F N nd hm1 hm2 hm3 ?_
  clear F N nd hm1 hm2 hm3 hch
  intro h t m D ys e4 pre n tn us e tu hpre hch hn0 hcn hys F N nd hmD hmu hmt hmv hms
  obtain ⟨G1, G2, rfl, TG1, TG2⟩ := TG
  replace N : News g L h ((D, listOf (List.toArray ys) e4) :: (x, instObj 112 dx) :: (dx, lexD w.params a1 a2 a3 a4 a5 n tn f1 l) :: (l, listOf #[] 0) :: (f1, fo) :: (dd, od) :: (f2, ro) :: (cell, co) :: (Ds, listOf (List.toArray us) e) :: (Dw, listOf (List.toArray wv) ew) :: (Dv, listOf (List.toArray vv) ev) :: (c1, o1) :: (c2, o2) :: (c3, o3) :: (c4, o4) :: (c5, o5) :: (c6, o6) :: (c7, o7) :: (c8, o8) :: (c9, o9) :: (c10, o10) :: (118, tabObj #[rawInt 163, rawInt 13, .ref k1, rawInt 164, rawInt 18, .ref k2]) :: (k1, lo1) :: (k2, lo2) :: (G2 ++ G1)) := news_blk (bs := [[(D, listOf (List.toArray ys) e4)], [(x, instObj 112 dx)], [(dx, lexD w.params a1 a2 a3 a4 a5 n tn f1 l)], [(l, listOf #[] 0)], [(f1, fo)], [(dd, od)], [(f2, ro)], [(cell, co)], [(Ds, listOf (List.toArray us) e)], [(Dw, listOf (List.toArray wv) ew)], [(Dv, listOf (List.toArray vv) ev)], [(c1, o1)], [(c2, o2)], [(c3, o3)], [(c4, o4)], [(c5, o5)], [(c6, o6)], [(c7, o7)], [(c8, o8)], [(c9, o9)], [(c10, o10)], (G2 ++ G1), [(118, tabObj #[rawInt 163, rawInt 13, .ref k1, rawInt 164, rawInt 18, .ref k2])], [(k1, lo1)], [(k2, lo2)]]) [0, 1, 2, 3, 4, 5, 6, 7, 8, 9, 10, 11, 12, 13, 14, 15, 16, 17, 18, 19, 20, 22, 23, 24, 21] N
  replace nd : (D :: x :: dx :: l :: f1 :: dd :: f2 :: cell :: Ds :: Dw :: Dv :: c1 :: c2 :: c3 :: c4 :: c5 :: c6 :: c7 :: c8 :: c9 :: c10 :: 118 :: k1 :: k2 :: ads ((G2 ++ G1))).Nodup := nd_blk (bs := [[(D, listOf (List.toArray ys) e4)], [(x, instObj 112 dx)], [(dx, lexD w.params a1 a2 a3 a4 a5 n tn f1 l)], [(l, listOf #[] 0)], [(f1, fo)], [(dd, od)], [(f2, ro)], [(cell, co)], [(Ds, listOf (List.toArray us) e)], [(Dw, listOf (List.toArray wv) ew)], [(Dv, listOf (List.toArray vv) ev)], [(c1, o1)], [(c2, o2)], [(c3, o3)], [(c4, o4)], [(c5, o5)], [(c6, o6)], [(c7, o7)], [(c8, o8)], [(c9, o9)], [(c10, o10)], (G2 ++ G1), [(118, tabObj #[rawInt 163, rawInt 13, .ref k1, rawInt 164, rawInt 18, .ref k2])], [(k1, lo1)], [(k2, lo2)]]) [0, 1, 2, 3, 4, 5, 6, 7, 8, 9, 10, 11, 12, 13, 14, 15, 16, 17, 18, 19, 20, 22, 23, 24, 21] nd (by decide)
  replace N : News g L h ((D, listOf (List.toArray ys) e4) :: (x, instObj 112 dx) :: (dx, lexD w.params a1 a2 a3 a4 a5 n tn f1 l) :: (l, listOf #[] 0) :: (f1, fo) :: (dd, od) :: (f2, ro) :: (cell, co) :: (Ds, listOf (List.toArray us) e) :: (Dw, listOf (List.toArray wv) ew) :: (Dv, listOf (List.toArray vv) ev) :: (c1, o1) :: (c2, o2) :: (c3, o3) :: (c4, o4) :: (c5, o5) :: (c6, o6) :: (c7, o7) :: (c8, o8) :: (c9, o9) :: (c10, o10) :: (118, tabObj #[rawInt 163, rawInt 13, .ref k1, rawInt 164, rawInt 18, .ref k2]) :: (k1, lo1) :: (k2, lo2) :: (G1 ++ (G2))) := news_blk (bs := [[(D, listOf (List.toArray ys) e4)], [(x, instObj 112 dx)], [(dx, lexD w.params a1 a2 a3 a4 a5 n tn f1 l)], [(l, listOf #[] 0)], [(f1, fo)], [(dd, od)], [(f2, ro)], [(cell, co)], [(Ds, listOf (List.toArray us) e)], [(Dw, listOf (List.toArray wv) ew)], [(Dv, listOf (List.toArray vv) ev)], [(c1, o1)], [(c2, o2)], [(c3, o3)], [(c4, o4)], [(c5, o5)], [(c6, o6)], [(c7, o7)], [(c8, o8)], [(c9, o9)], [(c10, o10)], [(118, tabObj #[rawInt 163, rawInt 13, .ref k1, rawInt 164, rawInt 18, .ref k2])], [(k1, lo1)], [(k2, lo2)], G2, G1]) [0, 1, 2, 3, 4, 5, 6, 7, 8, 9, 10, 11, 12, 13, 14, 15, 16, 17, 18, 19, 20, 21, 22, 23, 25, 24] N
  replace nd : (D :: x :: dx :: l :: f1 :: dd :: f2 :: cell :: Ds :: Dw :: Dv :: c1 :: c2 :: c3 :: c4 :: c5 :: c6 :: c7 :: c8 :: c9 :: c10 :: 118 :: k1 :: k2 :: ads ((G1 ++ (G2)))).Nodup := nd_blk (bs := [[(D, listOf (List.toArray ys) e4)], [(x, instObj 112 dx)], [(dx, lexD w.params a1 a2 a3 a4 a5 n tn f1 l)], [(l, listOf #[] 0)], [(f1, fo)], [(dd, od)], [(f2, ro)], [(cell, co)], [(Ds, listOf (List.toArray us) e)], [(Dw, listOf (List.toArray wv) ew)], [(Dv, listOf (List.toArray vv) ev)], [(c1, o1)], [(c2, o2)], [(c3, o3)], [(c4, o4)], [(c5, o5)], [(c6, o6)], [(c7, o7)], [(c8, o8)], [(c9, o9)], [(c10, o10)], [(118, tabObj #[rawInt 163, rawInt 13, .ref k1, rawInt 164, rawInt 18, .ref k2])], [(k1, lo1)], [(k2, lo2)], G2, G1]) [0, 1, 2, 3, 4, 5, 6, 7, 8, 9, 10, 11, 12, 13, 14, 15, 16, 17, 18, 19, 20, 21, 22, 23, 25, 24] nd (by decide)
  refine seg4 ⟨rfl, rfl⟩ (s := s) (rst := (c6, o6) :: (c7, o7) :: (c8, o8) :: (c9, o9) :: (c10, o10) :: (118, tabObj #[rawInt 163, rawInt 13, .ref k1, rawInt 164, rawInt 18, .ref k2]) :: (k1, lo1) :: (k2, lo2) :: G1) (G2 := G2) B r GR hnR TG2 d1 d3 d4 d5 hys hvv F N nd hmD hmv ?_
  clear F N nd d4 d5 TG2
  clear G2
  intro h t m4 Dn Dh oN o4 o5 kvs ws pb e6 ep G2 lo hdi hf hws hpb F N nd TG2 d4 d5 hme4
  replace N : News g L h ((Dh, listOf (List.toArray ws) e6) :: (Dn, oN) :: (D, listOf (List.toArray ys) e4) :: (x, instObj 112 dx) :: (dx, lexD w.params a1 a2 a3 a4 a5 n tn f1 l) :: (l, listOf (List.toArray pb) ep) :: (f1, fo) :: (dd, od) :: (f2, ro) :: (cell, co) :: (Ds, listOf (List.toArray us) e) :: (Dw, listOf (List.toArray wv) ew) :: (Dv, listOf (List.toArray vv) ev) :: (c1, o1) :: (c2, o2) :: (c3, o3) :: (c4, o4) :: (c5, o5) :: (c6, o6) :: (c7, o7) :: (c8, o8) :: (c9, o9) :: (c10, o10) :: (118, tabObj #[rawInt 163, rawInt 13, .ref k1, rawInt 164, rawInt 18, .ref k2]) :: (k1, lo1) :: (k2, lo2) :: (G2 ++ (G1))) := news_blk (bs := [[(Dh, listOf (List.toArray ws) e6)], [(Dn, oN)], [(D, listOf (List.toArray ys) e4)], [(x, instObj 112 dx)], [(dx, lexD w.params a1 a2 a3 a4 a5 n tn f1 l)], [(l, listOf (List.toArray pb) ep)], [(f1, fo)], [(dd, od)], [(f2, ro)], [(cell, co)], [(Ds, listOf (List.toArray us) e)], [(Dw, listOf (List.toArray wv) ew)], [(Dv, listOf (List.toArray vv) ev)], [(c1, o1)], [(c2, o2)], [(c3, o3)], [(c4, o4)], [(c5, o5)], [(c6, o6)], [(c7, o7)], [(c8, o8)], [(c9, o9)], [(c10, o10)], [(118, tabObj #[rawInt 163, rawInt 13, .ref k1, rawInt 164, rawInt 18, .ref k2])], [(k1, lo1)], [(k2, lo2)], G1, G2]) [0, 1, 2, 3, 4, 5, 6, 7, 8, 9, 10, 11, 12, 13, 14, 15, 16, 17, 18, 19, 20, 21, 22, 23, 24, 25, 27, 26] N
  replace nd : (Dh :: Dn :: D :: x :: dx :: l :: f1 :: dd :: f2 :: cell :: Ds :: Dw :: Dv :: c1 :: c2 :: c3 :: c4 :: c5 :: c6 :: c7 :: c8 :: c9 :: c10 :: 118 :: k1 :: k2 :: ads ((G2 ++ (G1)))).Nodup := nd_blk (bs := [[(Dh, listOf (List.toArray ws) e6)], [(Dn, oN)], [(D, listOf (List.toArray ys) e4)], [(x, instObj 112 dx)], [(dx, lexD w.params a1 a2 a3 a4 a5 n tn f1 l)], [(l, listOf (List.toArray pb) ep)], [(f1, fo)], [(dd, od)], [(f2, ro)], [(cell, co)], [(Ds, listOf (List.toArray us) e)], [(Dw, listOf (List.toArray wv) ew)], [(Dv, listOf (List.toArray vv) ev)], [(c1, o1)], [(c2, o2)], [(c3, o3)], [(c4, o4)], [(c5, o5)], [(c6, o6)], [(c7, o7)], [(c8, o8)], [(c9, o9)], [(c10, o10)], [(118, tabObj #[rawInt 163, rawInt 13, .ref k1, rawInt 164, rawInt 18, .ref k2])], [(k1, lo1)], [(k2, lo2)], G1, G2]) [0, 1, 2, 3, 4, 5, 6, 7, 8, 9, 10, 11, 12, 13, 14, 15, 16, 17, 18, 19, 20, 21, 22, 23, 24, 25, 27, 26] nd (by decide)
  obtain ⟨G3, eG⟩ : ∃ G3, G3 = G2 ++ G1 := ⟨_, rfl⟩
  have TG3 : Tabs G3 := ⟨G1, G2, eG, TG1, TG2⟩
  rw [← eG] at N nd
  clear eG TG1 TG2
  clear G1 G2
  replace N : News g L h ((D, listOf (List.toArray ys) e4) :: (Dw, listOf (List.toArray wv) ew) :: (c2, o2) :: (c6, o6) :: (c7, o7) :: (c8, o8) :: (Dh, listOf (List.toArray ws) e6) :: (Dn, oN) :: (x, instObj 112 dx) :: (dx, lexD w.params a1 a2 a3 a4 a5 n tn f1 l) :: (l, listOf (List.toArray pb) ep) :: (f1, fo) :: (dd, od) :: (f2, ro) :: (cell, co) :: (Ds, listOf (List.toArray us) e) :: (Dv, listOf (List.toArray vv) ev) :: (c1, o1) :: (c3, o3) :: (c4, o4) :: (c5, o5) :: (c9, o9) :: (c10, o10) :: (G3 ++ ((118, tabObj #[rawInt 163, rawInt 13, .ref k1, rawInt 164, rawInt 18, .ref k2]) :: (k1, lo1) :: (k2, lo2) :: []))) := news_blk (bs := [[(Dh, listOf (List.toArray ws) e6)], [(Dn, oN)], [(D, listOf (List.toArray ys) e4)], [(x, instObj 112 dx)], [(dx, lexD w.params a1 a2 a3 a4 a5 n tn f1 l)], [(l, listOf (List.toArray pb) ep)], [(f1, fo)], [(dd, od)], [(f2, ro)], [(cell, co)], [(Ds, listOf (List.toArray us) e)], [(Dw, listOf (List.toArray wv) ew)], [(Dv, listOf (List.toArray vv) ev)], [(c1, o1)], [(c2, o2)], [(c3, o3)], [(c4, o4)], [(c5, o5)], [(c6, o6)], [(c7, o7)], [(c8, o8)], [(c9, o9)], [(c10, o10)], [(118, tabObj #[rawInt 163, rawInt 13, .ref k1, rawInt 164, rawInt 18, .ref k2])], [(k1, lo1)], [(k2, lo2)], G3]) [2, 11, 14, 18, 19, 20, 0, 1, 3, 4, 5, 6, 7, 8, 9, 10, 12, 13, 15, 16, 17, 21, 22, 26, 23, 24, 25] N
  replace nd : (D :: Dw :: c2 :: c6 :: c7 :: c8 :: Dh :: Dn :: x :: dx :: l :: f1 :: dd :: f2 :: cell :: Ds :: Dv :: c1 :: c3 :: c4 :: c5 :: c9 :: c10 :: ads ((G3 ++ ((118, tabObj #[rawInt 163, rawInt 13, .ref k1, rawInt 164, rawInt 18, .ref k2]) :: (k1, lo1) :: (k2, lo2) :: [])))).Nodup := nd_blk (bs := [[(Dh, listOf (List.toArray ws) e6)], [(Dn, oN)], [(D, listOf (List.toArray ys) e4)], [(x, instObj 112 dx)], [(dx, lexD w.params a1 a2 a3 a4 a5 n tn f1 l)], [(l, listOf (List.toArray pb) ep)], [(f1, fo)], [(dd, od)], [(f2, ro)], [(cell, co)], [(Ds, listOf (List.toArray us) e)], [(Dw, listOf (List.toArray wv) ew)], [(Dv, listOf (List.toArray vv) ev)], [(c1, o1)], [(c2, o2)], [(c3, o3)], [(c4, o4)], [(c5, o5)], [(c6, o6)], [(c7, o7)], [(c8, o8)], [(c9, o9)], [(c10, o10)], [(118, tabObj #[rawInt 163, rawInt 13, .ref k1, rawInt 164, rawInt 18, .ref k2])], [(k1, lo1)], [(k2, lo2)], G3]) [2, 11, 14, 18, 19, 20, 0, 1, 3, 4, 5, 6, 7, 8, 9, 10, 12, 13, 15, 16, 17, 21, 22, 26, 23, 24, 25] nd (by decide)
  refine seg5 ⟨rfl, rfl⟩ (s := s) (rst := (Dh, listOf (List.toArray ws) e6) :: (Dn, oN) :: (x, instObj 112 dx) :: (dx, lexD w.params a1 a2 a3 a4 a5 n tn f1 l) :: (l, listOf (List.toArray pb) ep) :: (f1, fo) :: (dd, od) :: (f2, ro) :: (cell, co) :: (Ds, listOf (List.toArray us) e) :: (Dv, listOf (List.toArray vv) ev) :: (c1, o1) :: (c3, o3) :: (c4, o4) :: (c5, o5) :: (c9, o9) :: (c10, o10) :: G3) B r GR hnR TL d2 d6 d7 d8 hys hwv F N nd ((hme4 _ (by decide)).trans hmD) ?_
  clear F N nd d6 d7 d8
  intro h t m5 x2 dx2 l2 Dst Dm Dl Dsk f3 b1 b2 b3 b4 b5 un o6 o7 o8 zs e7 tl tc rl hrl hzs F N nd d6 d7 d8 hmm hml hmc hmk hme5
  rw [← Wd_at hrl] at hml
  replace N : News g L h ((Dsk, listOf (List.toArray []) 0) :: (Dl, listOf (List.toArray zs) e7) :: (Dm, listOf (List.toArray []) 0) :: (Dst, listOf (List.toArray []) 0) :: (x2, instObj 112 dx2) :: (dx2, lexD w.params b1 b2 b3 b4 b5 1 un f3 l2) :: (l2, listOf (List.toArray []) 0) :: (Dn, oN) :: (x, instObj 112 dx) :: (dx, lexD w.params a1 a2 a3 a4 a5 n tn f1 l) :: (l, listOf (List.toArray pb) ep) :: (Dv, listOf (List.toArray vv) ev) :: (c3, o3) :: (c4, o4) :: (c6, o6) :: (c7, o7) :: (c8, o8) :: (c9, o9) :: (D, listOf (List.toArray ys) e4) :: (Dw, listOf (List.toArray wv) ew) :: (Dh, listOf (List.toArray ws) e6) :: (Ds, listOf (List.toArray us) e) :: (f1, fo) :: (dd, od) :: (f2, ro) :: (cell, co) :: (c1, o1) :: (c2, o2) :: (c5, o5) :: (c10, o10) :: (118, tabObj #[rawInt 163, rawInt 13, .ref k1, rawInt 164, rawInt 18, .ref k2]) :: (k1, lo1) :: (k2, lo2) :: G3) := news_blk (bs := [[(Dsk, listOf (List.toArray []) 0)], [(Dl, listOf (List.toArray zs) e7)], [(Dm, listOf (List.toArray []) 0)], [(Dst, listOf (List.toArray []) 0)], [(x2, instObj 112 dx2)], [(dx2, lexD w.params b1 b2 b3 b4 b5 1 un f3 l2)], [(l2, listOf (List.toArray []) 0)], [(D, listOf (List.toArray ys) e4)], [(Dw, listOf (List.toArray wv) ew)], [(c2, o2)], [(c6, o6)], [(c7, o7)], [(c8, o8)], [(Dh, listOf (List.toArray ws) e6)], [(Dn, oN)], [(x, instObj 112 dx)], [(dx, lexD w.params a1 a2 a3 a4 a5 n tn f1 l)], [(l, listOf (List.toArray pb) ep)], [(f1, fo)], [(dd, od)], [(f2, ro)], [(cell, co)], [(Ds, listOf (List.toArray us) e)], [(Dv, listOf (List.toArray vv) ev)], [(c1, o1)], [(c3, o3)], [(c4, o4)], [(c5, o5)], [(c9, o9)], [(c10, o10)], G3, [(118, tabObj #[rawInt 163, rawInt 13, .ref k1, rawInt 164, rawInt 18, .ref k2])], [(k1, lo1)], [(k2, lo2)]]) [0, 1, 2, 3, 4, 5, 6, 14, 15, 16, 17, 23, 25, 26, 10, 11, 12, 28, 7, 8, 13, 22, 18, 19, 20, 21, 24, 9, 27, 29, 31, 32, 33, 30] N
  replace nd : (Dsk :: Dl :: Dm :: Dst :: x2 :: dx2 :: l2 :: Dn :: x :: dx :: l :: Dv :: c3 :: c4 :: c6 :: c7 :: c8 :: c9 :: D :: Dw :: Dh :: Ds :: f1 :: dd :: f2 :: cell :: c1 :: c2 :: c5 :: c10 :: 118 :: k1 :: k2 :: ads (G3)).Nodup := nd_blk (bs := [[(Dsk, listOf (List.toArray []) 0)], [(Dl, listOf (List.toArray zs) e7)], [(Dm, listOf (List.toArray []) 0)], [(Dst, listOf (List.toArray []) 0)], [(x2, instObj 112 dx2)], [(dx2, lexD w.params b1 b2 b3 b4 b5 1 un f3 l2)], [(l2, listOf (List.toArray []) 0)], [(D, listOf (List.toArray ys) e4)], [(Dw, listOf (List.toArray wv) ew)], [(c2, o2)], [(c6, o6)], [(c7, o7)], [(c8, o8)], [(Dh, listOf (List.toArray ws) e6)], [(Dn, oN)], [(x, instObj 112 dx)], [(dx, lexD w.params a1 a2 a3 a4 a5 n tn f1 l)], [(l, listOf (List.toArray pb) ep)], [(f1, fo)], [(dd, od)], [(f2, ro)], [(cell, co)], [(Ds, listOf (List.toArray us) e)], [(Dv, listOf (List.toArray vv) ev)], [(c1, o1)], [(c3, o3)], [(c4, o4)], [(c5, o5)], [(c9, o9)], [(c10, o10)], G3, [(118, tabObj #[rawInt 163, rawInt 13, .ref k1, rawInt 164, rawInt 18, .ref k2])], [(k1, lo1)], [(k2, lo2)]]) [0, 1, 2, 3, 4, 5, 6, 14, 15, 16, 17, 23, 25, 26, 10, 11, 12, 28, 7, 8, 13, 22, 18, 19, 20, 21, 24, 9, 27, 29, 31, 32, 33, 30] nd (by decide)
  refine seg6 ⟨rfl, rfl⟩ (s := s) (rst := (D, listOf (List.toArray ys) e4) :: (Dw, listOf (List.toArray wv) ew) :: (Dh, listOf (List.toArray ws) e6) :: (Ds, listOf (List.toArray us) e) :: (f1, fo) :: (dd, od) :: (f2, ro) :: (cell, co) :: (c1, o1) :: (c2, o2) :: (c5, o5) :: (c10, o10) :: (118, tabObj #[rawInt 163, rawInt 13, .ref k1, rawInt 164, rawInt 18, .ref k2]) :: (k1, lo1) :: (k2, lo2) :: []) (G := G3) B r GR hnR TG3 lo hdi hf hvv hzs ?hpb d3 d4 d6 d7 d8 d9 F N nd hml hmc hmm ((hme5 _ (by decide) (by decide) (by decide) (by decide)).trans ((hme4 _ (by decide)).trans hmv)) hmk ?_
  case hpb => exact hpb
  clear F N nd d8 d9 hmc hmk hml hzs hpb TG3
  intro h t m6 o8 Dsk Dl sks zs mvs sts tb pb esk el em est et ep Mk G tc st o9 hst3 hst4 F N nd TG hzs hsks hsts hpb htb hMk d8 hmc hmk hme6
  rw [List.append_assoc] at N nd
  have OK := okS_of (n := nR) (st := st) hnR (by omega) hst4
  have LW := lawS_of (n := nR) (st := st) hnR hst3 hst4
  have e6m : ∀ y : Str, y ∈ (["told", "unread", "text", "signs", "values"] : List Str) → m6 y = m y := by
    intro y hy
    simp only [List.mem_cons, List.not_mem_nil, or_false] at hy
    rcases hy with rfl | rfl | rfl | rfl | rfl <;>
    exact (hme6 _ (by decide) (by decide) (by decide) (by decide) (by decide) (by decide) (by decide)).trans ((hme5 _ (by decide) (by decide) (by decide) (by decide)).trans (hme4 _ (by decide)))
  have f6u := (e6m "unread" (by decide)).trans hmu
  have f6t := (e6m "text" (by decide)).trans hmt
  have f6s := (e6m "signs" (by decide)).trans hms
  have f6m := (hme6 "marks" (by decide) (by decide) (by decide) (by decide) (by decide) (by decide) (by decide)).trans hmm
  clear e6m hme4 hme5 hme6 hmm hmD hmu hmt hmv hms
  have hpre1 := pre_len hpre
  have hus : us.length ≤ 101 := by rw [hch.len, List.length_append, List.length_singleton]; omega
  replace N : News g L h ((Dsk, listOf (List.toArray sks) esk) :: (Dl, listOf (List.toArray zs) el) :: (x2, instObj 112 dx2) :: (dx2, lexD w.params b1 b2 b3 b4 b5 1 un f3 l2) :: (l2, listOf (List.toArray tb) et) :: (x, instObj 112 dx) :: (dx, lexD w.params a1 a2 a3 a4 a5 n tn f1 l) :: (l, listOf (List.toArray pb) ep) :: (Ds, listOf (List.toArray us) e) :: (Dw, listOf (List.toArray wv) ew) :: (c2, o2) :: (c3, o3) :: (c6, o6) :: (c8, o8) :: (Dm, listOf (List.toArray mvs) em) :: (Dst, listOf (List.toArray sts) est) :: (Dn, oN) :: (Dh, listOf (List.toArray ws) e6) :: (f1, fo) :: (dd, od) :: (f2, ro) :: (cell, co) :: (c4, o4) :: (c5, o5) :: (c7, o7) :: (c10, o10) :: (118, tabObj #[rawInt 163, rawInt 13, .ref k1, rawInt 164, rawInt 18, .ref k2]) :: (k1, lo1) :: (k2, lo2) :: (Mk ++ (G))) := news_blk (bs := [[(Dsk, listOf (List.toArray sks) esk)], [(Dl, listOf (List.toArray zs) el)], [(Dm, listOf (List.toArray mvs) em)], [(Dst, listOf (List.toArray sts) est)], [(x2, instObj 112 dx2)], [(dx2, lexD w.params b1 b2 b3 b4 b5 1 un f3 l2)], [(l2, listOf (List.toArray tb) et)], [(Dn, oN)], [(x, instObj 112 dx)], [(dx, lexD w.params a1 a2 a3 a4 a5 n tn f1 l)], [(l, listOf (List.toArray pb) ep)], [(Dv, listOf (List.toArray vv) ev)], [(c3, o3)], [(c4, o4)], [(c6, o6)], [(c7, o7)], [(c8, o8)], [(c9, o9)], Mk, [(D, listOf (List.toArray ys) e4)], [(Dw, listOf (List.toArray wv) ew)], [(Dh, listOf (List.toArray ws) e6)], [(Ds, listOf (List.toArray us) e)], [(f1, fo)], [(dd, od)], [(f2, ro)], [(cell, co)], [(c1, o1)], [(c2, o2)], [(c5, o5)], [(c10, o10)], [(118, tabObj #[rawInt 163, rawInt 13, .ref k1, rawInt 164, rawInt 18, .ref k2])], [(k1, lo1)], [(k2, lo2)], G]) [0, 1, 4, 5, 6, 8, 9, 10, 22, 20, 28, 12, 14, 16, 2, 3, 7, 21, 23, 24, 25, 26, 13, 29, 15, 30, 31, 32, 33, 18, 34] N
  replace nd : (Dsk :: Dl :: x2 :: dx2 :: l2 :: x :: dx :: l :: Ds :: Dw :: c2 :: c3 :: c6 :: c8 :: Dm :: Dst :: Dn :: Dh :: f1 :: dd :: f2 :: cell :: c4 :: c5 :: c7 :: c10 :: 118 :: k1 :: k2 :: ads ((Mk ++ (G)))).Nodup := nd_blk (bs := [[(Dsk, listOf (List.toArray sks) esk)], [(Dl, listOf (List.toArray zs) el)], [(Dm, listOf (List.toArray mvs) em)], [(Dst, listOf (List.toArray sts) est)], [(x2, instObj 112 dx2)], [(dx2, lexD w.params b1 b2 b3 b4 b5 1 un f3 l2)], [(l2, listOf (List.toArray tb) et)], [(Dn, oN)], [(x, instObj 112 dx)], [(dx, lexD w.params a1 a2 a3 a4 a5 n tn f1 l)], [(l, listOf (List.toArray pb) ep)], [(Dv, listOf (List.toArray vv) ev)], [(c3, o3)], [(c4, o4)], [(c6, o6)], [(c7, o7)], [(c8, o8)], [(c9, o9)], Mk, [(D, listOf (List.toArray ys) e4)], [(Dw, listOf (List.toArray wv) ew)], [(Dh, listOf (List.toArray ws) e6)], [(Ds, listOf (List.toArray us) e)], [(f1, fo)], [(dd, od)], [(f2, ro)], [(cell, co)], [(c1, o1)], [(c2, o2)], [(c5, o5)], [(c10, o10)], [(118, tabObj #[rawInt 163, rawInt 13, .ref k1, rawInt 164, rawInt 18, .ref k2])], [(k1, lo1)], [(k2, lo2)], G]) [0, 1, 4, 5, 6, 8, 9, 10, 22, 20, 28, 12, 14, 16, 2, 3, 7, 21, 23, 24, 25, 26, 13, 29, 15, 30, 31, 32, 33, 18, 34] nd (by decide)
  refine seg7 ⟨rfl, rfl⟩ (s := s) (lf := (runS nR st).1) (sk := (runS nR st).2.1) B r GR hnR OK.len OK.lt OK.slen OK.slt hus hzs hsks hpb htb hwv d2 d3 d6 d8 F N nd f6s f6u hmc hmk ?_
  clear F N nd hpb htb d6 f6u hmc
  intro h t m7 Dg Dr gs rs qt eg er et2 e9 hrs hgs F N nd hmr hmg hme7
  replace N : News g L h ((Dr, listOf (List.toArray rs) er) :: (Dm, listOf (List.toArray mvs) em) :: (Mk ++ ((Dg, listOf (List.toArray gs) eg) :: (Dsk, listOf (List.toArray sks) esk) :: (Dl, listOf (List.toArray zs) el) :: (x, instObj 112 dx) :: (dx, lexD w.params a1 a2 a3 a4 a5 n tn f1 l) :: (l, listOf #[] e9) :: (Ds, listOf (List.toArray us) e) :: (Dw, listOf (List.toArray wv) ew) :: (Dst, listOf (List.toArray sts) est) :: (Dn, oN) :: (Dh, listOf (List.toArray ws) e6) :: (f1, fo) :: (dd, od) :: (f2, ro) :: (cell, co) :: (c2, o2) :: (c3, o3) :: (c4, o4) :: (c5, o5) :: (c7, o7) :: (c8, o8) :: (c10, o10) :: (118, tabObj #[rawInt 163, rawInt 13, .ref k1, rawInt 164, rawInt 18, .ref k2]) :: (k1, lo1) :: (k2, lo2) :: G))) := news_blk (bs := [[(Dg, listOf (List.toArray gs) eg)], [(Dr, listOf (List.toArray rs) er)], [(Dsk, listOf (List.toArray sks) esk)], [(Dl, listOf (List.toArray zs) el)], [(x2, instObj 112 dx2)], [(dx2, lexD w.params b1 b2 b3 b4 b5 1 un f3 l2)], [(l2, listOf (List.toArray qt) et2)], [(x, instObj 112 dx)], [(dx, lexD w.params a1 a2 a3 a4 a5 n tn f1 l)], [(l, listOf #[] e9)], [(Ds, listOf (List.toArray us) e)], [(Dw, listOf (List.toArray wv) ew)], [(c2, o2)], [(c3, o3)], [(c6, o6)], [(c8, o8)], [(Dm, listOf (List.toArray mvs) em)], [(Dst, listOf (List.toArray sts) est)], [(Dn, oN)], [(Dh, listOf (List.toArray ws) e6)], [(f1, fo)], [(dd, od)], [(f2, ro)], [(cell, co)], [(c4, o4)], [(c5, o5)], [(c7, o7)], [(c10, o10)], [(118, tabObj #[rawInt 163, rawInt 13, .ref k1, rawInt 164, rawInt 18, .ref k2])], [(k1, lo1)], [(k2, lo2)], Mk, G]) [1, 16, 31, 0, 2, 3, 7, 8, 9, 10, 11, 17, 18, 19, 20, 21, 22, 23, 12, 13, 24, 25, 26, 15, 27, 28, 29, 30, 32] N
  replace nd : (Dr :: Dm :: ads ((Mk ++ ((Dg, listOf (List.toArray gs) eg) :: (Dsk, listOf (List.toArray sks) esk) :: (Dl, listOf (List.toArray zs) el) :: (x, instObj 112 dx) :: (dx, lexD w.params a1 a2 a3 a4 a5 n tn f1 l) :: (l, listOf #[] e9) :: (Ds, listOf (List.toArray us) e) :: (Dw, listOf (List.toArray wv) ew) :: (Dst, listOf (List.toArray sts) est) :: (Dn, oN) :: (Dh, listOf (List.toArray ws) e6) :: (f1, fo) :: (dd, od) :: (f2, ro) :: (cell, co) :: (c2, o2) :: (c3, o3) :: (c4, o4) :: (c5, o5) :: (c7, o7) :: (c8, o8) :: (c10, o10) :: (118, tabObj #[rawInt 163, rawInt 13, .ref k1, rawInt 164, rawInt 18, .ref k2]) :: (k1, lo1) :: (k2, lo2) :: G)))).Nodup := nd_blk (bs := [[(Dg, listOf (List.toArray gs) eg)], [(Dr, listOf (List.toArray rs) er)], [(Dsk, listOf (List.toArray sks) esk)], [(Dl, listOf (List.toArray zs) el)], [(x2, instObj 112 dx2)], [(dx2, lexD w.params b1 b2 b3 b4 b5 1 un f3 l2)], [(l2, listOf (List.toArray qt) et2)], [(x, instObj 112 dx)], [(dx, lexD w.params a1 a2 a3 a4 a5 n tn f1 l)], [(l, listOf #[] e9)], [(Ds, listOf (List.toArray us) e)], [(Dw, listOf (List.toArray wv) ew)], [(c2, o2)], [(c3, o3)], [(c6, o6)], [(c8, o8)], [(Dm, listOf (List.toArray mvs) em)], [(Dst, listOf (List.toArray sts) est)], [(Dn, oN)], [(Dh, listOf (List.toArray ws) e6)], [(f1, fo)], [(dd, od)], [(f2, ro)], [(cell, co)], [(c4, o4)], [(c5, o5)], [(c7, o7)], [(c10, o10)], [(118, tabObj #[rawInt 163, rawInt 13, .ref k1, rawInt 164, rawInt 18, .ref k2])], [(k1, lo1)], [(k2, lo2)], Mk, G]) [1, 16, 31, 0, 2, 3, 7, 8, 9, 10, 11, 17, 18, 19, 20, 21, 22, 23, 12, 13, 24, 25, 26, 15, 27, 28, 29, 30, 32] nd (by decide)
  have hrl2 : rs.length = (runS nR st).1.length := by rw [StrsAre.len hrs, List.length_map]
  refine seg8 ⟨rfl, rfl⟩ (s := s) (M := Mk) B r hrl2 OK.len (by rw [OK.mlen]; have := OK.slen; omega) hMk F N nd hmr ((hme7 _ (by decide) (by decide)).trans f6m) ?_
  clear F N nd hMk
  intro h t m8 mvs em Mk F N nd hMk hme8
  have f8 : ∀ y : Str, y ≠ "k" → y ≠ "rest" → y ≠ "gone" → m8 y = m6 y := fun y a b c => (hme8 y a).trans (hme7 y b c)
  replace hmr := (hme8 _ (by decide)).trans hmr
  replace hmg := (hme8 _ (by decide)).trans hmg
  replace f6t := (f8 _ (by decide) (by decide) (by decide)).trans f6t
  replace f6m := (f8 _ (by decide) (by decide) (by decide)).trans f6m
  replace hmk := (f8 _ (by decide) (by decide) (by decide)).trans hmk
  clear f8 hme7 hme8 f6s
  replace N : News g L h ((Dg, listOf (List.toArray gs) eg) :: (Dr, listOf (List.toArray rs) er) :: (Dh, listOf (List.toArray ws) e6) :: (Dn, oN) :: (c4, o4) :: (c5, o5) :: (Dm, listOf (List.toArray mvs) em) :: (Dsk, listOf (List.toArray sks) esk) :: (Dl, listOf (List.toArray zs) el) :: (x, instObj 112 dx) :: (dx, lexD w.params a1 a2 a3 a4 a5 n tn f1 l) :: (l, listOf #[] e9) :: (Ds, listOf (List.toArray us) e) :: (Dw, listOf (List.toArray wv) ew) :: (Dst, listOf (List.toArray sts) est) :: (f1, fo) :: (dd, od) :: (f2, ro) :: (cell, co) :: (c2, o2) :: (c3, o3) :: (c7, o7) :: (c8, o8) :: (c10, o10) :: (118, tabObj #[rawInt 163, rawInt 13, .ref k1, rawInt 164, rawInt 18, .ref k2]) :: (k1, lo1) :: (k2, lo2) :: (Mk ++ (G))) := news_blk (bs := [[(Dr, listOf (List.toArray rs) er)], [(Dm, listOf (List.toArray mvs) em)], Mk, [(Dg, listOf (List.toArray gs) eg)], [(Dsk, listOf (List.toArray sks) esk)], [(Dl, listOf (List.toArray zs) el)], [(x, instObj 112 dx)], [(dx, lexD w.params a1 a2 a3 a4 a5 n tn f1 l)], [(l, listOf #[] e9)], [(Ds, listOf (List.toArray us) e)], [(Dw, listOf (List.toArray wv) ew)], [(Dst, listOf (List.toArray sts) est)], [(Dn, oN)], [(Dh, listOf (List.toArray ws) e6)], [(f1, fo)], [(dd, od)], [(f2, ro)], [(cell, co)], [(c2, o2)], [(c3, o3)], [(c4, o4)], [(c5, o5)], [(c7, o7)], [(c8, o8)], [(c10, o10)], [(118, tabObj #[rawInt 163, rawInt 13, .ref k1, rawInt 164, rawInt 18, .ref k2])], [(k1, lo1)], [(k2, lo2)], G]) [3, 0, 13, 12, 20, 21, 1, 4, 5, 6, 7, 8, 9, 10, 11, 14, 15, 16, 17, 18, 19, 22, 23, 24, 25, 26, 27, 2, 28] N
  replace nd : (Dg :: Dr :: Dh :: Dn :: c4 :: c5 :: Dm :: Dsk :: Dl :: x :: dx :: l :: Ds :: Dw :: Dst :: f1 :: dd :: f2 :: cell :: c2 :: c3 :: c7 :: c8 :: c10 :: 118 :: k1 :: k2 :: ads ((Mk ++ (G)))).Nodup := nd_blk (bs := [[(Dr, listOf (List.toArray rs) er)], [(Dm, listOf (List.toArray mvs) em)], Mk, [(Dg, listOf (List.toArray gs) eg)], [(Dsk, listOf (List.toArray sks) esk)], [(Dl, listOf (List.toArray zs) el)], [(x, instObj 112 dx)], [(dx, lexD w.params a1 a2 a3 a4 a5 n tn f1 l)], [(l, listOf #[] e9)], [(Ds, listOf (List.toArray us) e)], [(Dw, listOf (List.toArray wv) ew)], [(Dst, listOf (List.toArray sts) est)], [(Dn, oN)], [(Dh, listOf (List.toArray ws) e6)], [(f1, fo)], [(dd, od)], [(f2, ro)], [(cell, co)], [(c2, o2)], [(c3, o3)], [(c4, o4)], [(c5, o5)], [(c7, o7)], [(c8, o8)], [(c10, o10)], [(118, tabObj #[rawInt 163, rawInt 13, .ref k1, rawInt 164, rawInt 18, .ref k2])], [(k1, lo1)], [(k2, lo2)], G]) [3, 0, 13, 12, 20, 21, 1, 4, 5, 6, 7, 8, 9, 10, 11, 14, 15, 16, 17, 18, 19, 22, 23, 24, 25, 26, 27, 2, 28] nd (by decide)
  refine seg9 ⟨rfl, rfl⟩ (s := s) (lf := (runS nR st).1) (sk := (runS nR st).2.1) B r GR hnR lo hdi hf OK.len OK.lt OK.slen OK.slt hws hrs hgs d4 d5 F N nd hmr hmg ?_
  clear F N nd hmg
  intro h t m9 Df fo9 ef F N nd hfo hmf hme9
  replace N : News g L h ((Df, listOf (List.toArray fo9) ef) :: (Dm, listOf (List.toArray mvs) em) :: (Dst, listOf (List.toArray sts) est) :: (c7, o7) :: (Mk ++ ((Dsk, listOf (List.toArray sks) esk) :: (Dl, listOf (List.toArray zs) el) :: (Dr, listOf (List.toArray rs) er) :: (Dn, oN) :: (Dh, listOf (List.toArray ws) e6) :: (x, instObj 112 dx) :: (dx, lexD w.params a1 a2 a3 a4 a5 n tn f1 l) :: (l, listOf #[] e9) :: (Ds, listOf (List.toArray us) e) :: (Dw, listOf (List.toArray wv) ew) :: (f1, fo) :: (dd, od) :: (f2, ro) :: (cell, co) :: (c2, o2) :: (c3, o3) :: (c4, o4) :: (c5, o5) :: (c8, o8) :: (c10, o10) :: (118, tabObj #[rawInt 163, rawInt 13, .ref k1, rawInt 164, rawInt 18, .ref k2]) :: (k1, lo1) :: (k2, lo2) :: G))) := news_blk (bs := [[(Df, listOf (List.toArray fo9) ef)], [(Dg, listOf (List.toArray gs) eg)], [(Dr, listOf (List.toArray rs) er)], [(Dh, listOf (List.toArray ws) e6)], [(Dn, oN)], [(c4, o4)], [(c5, o5)], [(Dm, listOf (List.toArray mvs) em)], [(Dsk, listOf (List.toArray sks) esk)], [(Dl, listOf (List.toArray zs) el)], [(x, instObj 112 dx)], [(dx, lexD w.params a1 a2 a3 a4 a5 n tn f1 l)], [(l, listOf #[] e9)], [(Ds, listOf (List.toArray us) e)], [(Dw, listOf (List.toArray wv) ew)], [(Dst, listOf (List.toArray sts) est)], [(f1, fo)], [(dd, od)], [(f2, ro)], [(cell, co)], [(c2, o2)], [(c3, o3)], [(c7, o7)], [(c8, o8)], [(c10, o10)], [(118, tabObj #[rawInt 163, rawInt 13, .ref k1, rawInt 164, rawInt 18, .ref k2])], [(k1, lo1)], [(k2, lo2)], Mk, G]) [0, 7, 15, 22, 28, 8, 9, 2, 4, 3, 10, 11, 12, 13, 14, 16, 17, 18, 19, 20, 21, 5, 6, 23, 24, 25, 26, 27, 29] N
  replace nd : (Df :: Dm :: Dst :: c7 :: ads ((Mk ++ ((Dsk, listOf (List.toArray sks) esk) :: (Dl, listOf (List.toArray zs) el) :: (Dr, listOf (List.toArray rs) er) :: (Dn, oN) :: (Dh, listOf (List.toArray ws) e6) :: (x, instObj 112 dx) :: (dx, lexD w.params a1 a2 a3 a4 a5 n tn f1 l) :: (l, listOf #[] e9) :: (Ds, listOf (List.toArray us) e) :: (Dw, listOf (List.toArray wv) ew) :: (f1, fo) :: (dd, od) :: (f2, ro) :: (cell, co) :: (c2, o2) :: (c3, o3) :: (c4, o4) :: (c5, o5) :: (c8, o8) :: (c10, o10) :: (118, tabObj #[rawInt 163, rawInt 13, .ref k1, rawInt 164, rawInt 18, .ref k2]) :: (k1, lo1) :: (k2, lo2) :: G)))).Nodup := nd_blk (bs := [[(Df, listOf (List.toArray fo9) ef)], [(Dg, listOf (List.toArray gs) eg)], [(Dr, listOf (List.toArray rs) er)], [(Dh, listOf (List.toArray ws) e6)], [(Dn, oN)], [(c4, o4)], [(c5, o5)], [(Dm, listOf (List.toArray mvs) em)], [(Dsk, listOf (List.toArray sks) esk)], [(Dl, listOf (List.toArray zs) el)], [(x, instObj 112 dx)], [(dx, lexD w.params a1 a2 a3 a4 a5 n tn f1 l)], [(l, listOf #[] e9)], [(Ds, listOf (List.toArray us) e)], [(Dw, listOf (List.toArray wv) ew)], [(Dst, listOf (List.toArray sts) est)], [(f1, fo)], [(dd, od)], [(f2, ro)], [(cell, co)], [(c2, o2)], [(c3, o3)], [(c7, o7)], [(c8, o8)], [(c10, o10)], [(118, tabObj #[rawInt 163, rawInt 13, .ref k1, rawInt 164, rawInt 18, .ref k2])], [(k1, lo1)], [(k2, lo2)], Mk, G]) [0, 7, 15, 22, 28, 8, 9, 2, 4, 3, 10, 11, 12, 13, 14, 16, 17, 18, 19, 20, 21, 5, 6, 23, 24, 25, 26, 27, 29] nd (by decide)
  refine seg10 ⟨rfl, rfl⟩ (s := s) (M := Mk) (rst := (Dsk, listOf (List.toArray sks) esk) :: (Dl, listOf (List.toArray zs) el) :: (Dr, listOf (List.toArray rs) er) :: (Dn, oN) :: (Dh, listOf (List.toArray ws) e6) :: (x, instObj 112 dx) :: (dx, lexD w.params a1 a2 a3 a4 a5 n tn f1 l) :: (l, listOf #[] e9) :: (Ds, listOf (List.toArray us) e) :: (Dw, listOf (List.toArray wv) ew) :: (f1, fo) :: (dd, od) :: (f2, ro) :: (cell, co) :: (c2, o2) :: (c3, o3) :: (c4, o4) :: (c5, o5) :: (c8, o8) :: (c10, o10) :: (118, tabObj #[rawInt 163, rawInt 13, .ref k1, rawInt 164, rawInt 18, .ref k2]) :: (k1, lo1) :: (k2, lo2) :: []) (G := G) (al := (runS nR st).2.1 ++ (runS nR st).1) (st := st) B r TG hMk hsts hst3 hst4 ?hmk ?hml hfo LW.1 d7 F N nd hmf ((hme9 _ (by decide)).trans f6m) ?_
  case hmk =>
    intro p hp
    rcases List.mem_append.mp hp with hp | hp
    · have := OK.mks p hp; omega
    · obtain ⟨i, hi, rfl⟩ := List.mem_map.mp hp
      have h1 := List.mem_range.mp hi
      have h2 := OK.len
      exact ⟨Nat.le_refl _, by dsimp only; omega, by dsimp only; omega⟩
  case hml =>
    rw [List.length_append, OK.mlen, List.length_map, List.length_range]
    have h1 := OK.len
    have h2 := OK.slen
    omega
  clear F N nd hMk TG
  intro h t Ga F N nd TG
  replace N : News g L h ((Df, listOf (List.toArray fo9) ef) :: (Dsk, listOf (List.toArray sks) esk) :: (Dl, listOf (List.toArray zs) el) :: (c8, o8) :: (Dst, listOf (List.toArray sts) est) :: (c7, o7) :: (Dr, listOf (List.toArray rs) er) :: (Dn, oN) :: (Dh, listOf (List.toArray ws) e6) :: (x, instObj 112 dx) :: (dx, lexD w.params a1 a2 a3 a4 a5 n tn f1 l) :: (l, listOf #[] e9) :: (Ds, listOf (List.toArray us) e) :: (Dw, listOf (List.toArray wv) ew) :: (f1, fo) :: (dd, od) :: (f2, ro) :: (cell, co) :: (c2, o2) :: (c3, o3) :: (c4, o4) :: (c5, o5) :: (c10, o10) :: (118, tabObj #[rawInt 163, rawInt 13, .ref k1, rawInt 164, rawInt 18, .ref k2]) :: (k1, lo1) :: (k2, lo2) :: Ga) := news_blk (bs := [[(Df, listOf (List.toArray fo9) ef)], [(Dm, listOf (List.toArray mvs) em)], [(Dst, listOf (List.toArray sts) est)], [(c7, o7)], Mk, [(Dsk, listOf (List.toArray sks) esk)], [(Dl, listOf (List.toArray zs) el)], [(Dr, listOf (List.toArray rs) er)], [(Dn, oN)], [(Dh, listOf (List.toArray ws) e6)], [(x, instObj 112 dx)], [(dx, lexD w.params a1 a2 a3 a4 a5 n tn f1 l)], [(l, listOf #[] e9)], [(Ds, listOf (List.toArray us) e)], [(Dw, listOf (List.toArray wv) ew)], [(f1, fo)], [(dd, od)], [(f2, ro)], [(cell, co)], [(c2, o2)], [(c3, o3)], [(c4, o4)], [(c5, o5)], [(c8, o8)], [(c10, o10)], [(118, tabObj #[rawInt 163, rawInt 13, .ref k1, rawInt 164, rawInt 18, .ref k2])], [(k1, lo1)], [(k2, lo2)], Ga]) [0, 5, 6, 23, 2, 3, 7, 8, 9, 10, 11, 12, 13, 14, 15, 16, 17, 18, 19, 20, 21, 22, 24, 25, 26, 27, 28] N
  replace nd : (Df :: Dsk :: Dl :: c8 :: Dst :: c7 :: Dr :: Dn :: Dh :: x :: dx :: l :: Ds :: Dw :: f1 :: dd :: f2 :: cell :: c2 :: c3 :: c4 :: c5 :: c10 :: 118 :: k1 :: k2 :: ads (Ga)).Nodup := nd_blk (bs := [[(Df, listOf (List.toArray fo9) ef)], [(Dm, listOf (List.toArray mvs) em)], [(Dst, listOf (List.toArray sts) est)], [(c7, o7)], Mk, [(Dsk, listOf (List.toArray sks) esk)], [(Dl, listOf (List.toArray zs) el)], [(Dr, listOf (List.toArray rs) er)], [(Dn, oN)], [(Dh, listOf (List.toArray ws) e6)], [(x, instObj 112 dx)], [(dx, lexD w.params a1 a2 a3 a4 a5 n tn f1 l)], [(l, listOf #[] e9)], [(Ds, listOf (List.toArray us) e)], [(Dw, listOf (List.toArray wv) ew)], [(f1, fo)], [(dd, od)], [(f2, ro)], [(cell, co)], [(c2, o2)], [(c3, o3)], [(c4, o4)], [(c5, o5)], [(c8, o8)], [(c10, o10)], [(118, tabObj #[rawInt 163, rawInt 13, .ref k1, rawInt 164, rawInt 18, .ref k2])], [(k1, lo1)], [(k2, lo2)], Ga]) [0, 5, 6, 23, 2, 3, 7, 8, 9, 10, 11, 12, 13, 14, 15, 16, 17, 18, 19, 20, 21, 22, 24, 25, 26, 27, 28] nd (by decide)
  refine seg11 ⟨rfl, rfl⟩ (s := s) (lf := (runS nR st).1) (sk := (runS nR st).2.1) B r OK.len OK.slen hfo hzs hsks d8 F N nd hmf ((hme9 _ (by decide)).trans hmk) ?_
  clear F N
  intro h t F N
  replace N : News g L h ((Dr, listOf (List.toArray rs) er) :: (Dn, oN) :: (c4, o4) :: (Dl, listOf (List.toArray zs) el) :: (c8, o8) :: (Dst, listOf (List.toArray sts) est) :: (c7, o7) :: (Dh, listOf (List.toArray ws) e6) :: (x, instObj 112 dx) :: (dx, lexD w.params a1 a2 a3 a4 a5 n tn f1 l) :: (l, listOf #[] e9) :: (Ds, listOf (List.toArray us) e) :: (Dw, listOf (List.toArray wv) ew) :: (f1, fo) :: (dd, od) :: (f2, ro) :: (cell, co) :: (c2, o2) :: (c3, o3) :: (c5, o5) :: (c10, o10) :: (118, tabObj #[rawInt 163, rawInt 13, .ref k1, rawInt 164, rawInt 18, .ref k2]) :: (k1, lo1) :: (k2, lo2) :: Ga) := news_blk (bs := [[(Df, listOf (List.toArray fo9) ef)], [(Dsk, listOf (List.toArray sks) esk)], [(Dl, listOf (List.toArray zs) el)], [(c8, o8)], [(Dst, listOf (List.toArray sts) est)], [(c7, o7)], [(Dr, listOf (List.toArray rs) er)], [(Dn, oN)], [(Dh, listOf (List.toArray ws) e6)], [(x, instObj 112 dx)], [(dx, lexD w.params a1 a2 a3 a4 a5 n tn f1 l)], [(l, listOf #[] e9)], [(Ds, listOf (List.toArray us) e)], [(Dw, listOf (List.toArray wv) ew)], [(f1, fo)], [(dd, od)], [(f2, ro)], [(cell, co)], [(c2, o2)], [(c3, o3)], [(c4, o4)], [(c5, o5)], [(c10, o10)], [(118, tabObj #[rawInt 163, rawInt 13, .ref k1, rawInt 164, rawInt 18, .ref k2])], [(k1, lo1)], [(k2, lo2)], Ga]) [6, 7, 20, 2, 3, 4, 5, 8, 9, 10, 11, 12, 13, 14, 15, 16, 17, 18, 19, 21, 22, 23, 24, 25, 26] N
  replace nd : (Dr :: Dn :: c4 :: Dl :: c8 :: Dst :: c7 :: Dh :: x :: dx :: l :: Ds :: Dw :: f1 :: dd :: f2 :: cell :: c2 :: c3 :: c5 :: c10 :: 118 :: k1 :: k2 :: ads (Ga)).Nodup := nd_blk (bs := [[(Df, listOf (List.toArray fo9) ef)], [(Dsk, listOf (List.toArray sks) esk)], [(Dl, listOf (List.toArray zs) el)], [(c8, o8)], [(Dst, listOf (List.toArray sts) est)], [(c7, o7)], [(Dr, listOf (List.toArray rs) er)], [(Dn, oN)], [(Dh, listOf (List.toArray ws) e6)], [(x, instObj 112 dx)], [(dx, lexD w.params a1 a2 a3 a4 a5 n tn f1 l)], [(l, listOf #[] e9)], [(Ds, listOf (List.toArray us) e)], [(Dw, listOf (List.toArray wv) ew)], [(f1, fo)], [(dd, od)], [(f2, ro)], [(cell, co)], [(c2, o2)], [(c3, o3)], [(c4, o4)], [(c5, o5)], [(c10, o10)], [(118, tabObj #[rawInt 163, rawInt 13, .ref k1, rawInt 164, rawInt 18, .ref k2])], [(k1, lo1)], [(k2, lo2)], Ga]) [6, 7, 20, 2, 3, 4, 5, 8, 9, 10, 11, 12, 13, 14, 15, 16, 17, 18, 19, 21, 22, 23, 24, 25, 26] nd (by decide)
  refine seg12 ⟨rfl, rfl⟩ (s := s) (lf := (runS nR st).1) B r GR lo hdi hf OK.len OK.lt hrs d4 F N nd ((hme9 _ (by decide)).trans hmr) ?_
  clear F N nd
  intro h t mb Dw2 rw2 e12 F N nd hrw hmw hme12
  replace N : News g L h ((Dw2, listOf (List.toArray rw2) e12) :: (Dh, listOf (List.toArray ws) e6) :: (Dl, listOf (List.toArray zs) el) :: (Dst, listOf (List.toArray sts) est) :: (Dw, listOf (List.toArray wv) ew) :: (c2, o2) :: (c5, o5) :: (c7, o7) :: (c8, o8) :: (c10, o10) :: (x, instObj 112 dx) :: (dx, lexD w.params a1 a2 a3 a4 a5 n tn f1 l) :: (l, listOf #[] e9) :: (Ds, listOf (List.toArray us) e) :: (f1, fo) :: (dd, od) :: (f2, ro) :: (cell, co) :: (c3, o3) :: (118, tabObj #[rawInt 163, rawInt 13, .ref k1, rawInt 164, rawInt 18, .ref k2]) :: (k1, lo1) :: (k2, lo2) :: Ga) := news_blk (bs := [[(Dw2, listOf (List.toArray rw2) e12)], [(Dr, listOf (List.toArray rs) er)], [(Dn, oN)], [(c4, o4)], [(Dl, listOf (List.toArray zs) el)], [(c8, o8)], [(Dst, listOf (List.toArray sts) est)], [(c7, o7)], [(Dh, listOf (List.toArray ws) e6)], [(x, instObj 112 dx)], [(dx, lexD w.params a1 a2 a3 a4 a5 n tn f1 l)], [(l, listOf #[] e9)], [(Ds, listOf (List.toArray us) e)], [(Dw, listOf (List.toArray wv) ew)], [(f1, fo)], [(dd, od)], [(f2, ro)], [(cell, co)], [(c2, o2)], [(c3, o3)], [(c5, o5)], [(c10, o10)], [(118, tabObj #[rawInt 163, rawInt 13, .ref k1, rawInt 164, rawInt 18, .ref k2])], [(k1, lo1)], [(k2, lo2)], Ga]) [0, 8, 4, 6, 13, 18, 20, 7, 5, 21, 9, 10, 11, 12, 14, 15, 16, 17, 19, 22, 23, 24, 25] N
  replace nd : (Dw2 :: Dh :: Dl :: Dst :: Dw :: c2 :: c5 :: c7 :: c8 :: c10 :: x :: dx :: l :: Ds :: f1 :: dd :: f2 :: cell :: c3 :: 118 :: k1 :: k2 :: ads (Ga)).Nodup := nd_blk (bs := [[(Dw2, listOf (List.toArray rw2) e12)], [(Dr, listOf (List.toArray rs) er)], [(Dn, oN)], [(c4, o4)], [(Dl, listOf (List.toArray zs) el)], [(c8, o8)], [(Dst, listOf (List.toArray sts) est)], [(c7, o7)], [(Dh, listOf (List.toArray ws) e6)], [(x, instObj 112 dx)], [(dx, lexD w.params a1 a2 a3 a4 a5 n tn f1 l)], [(l, listOf #[] e9)], [(Ds, listOf (List.toArray us) e)], [(Dw, listOf (List.toArray wv) ew)], [(f1, fo)], [(dd, od)], [(f2, ro)], [(cell, co)], [(c2, o2)], [(c3, o3)], [(c5, o5)], [(c10, o10)], [(118, tabObj #[rawInt 163, rawInt 13, .ref k1, rawInt 164, rawInt 18, .ref k2])], [(k1, lo1)], [(k2, lo2)], Ga]) [0, 8, 4, 6, 13, 18, 20, 7, 5, 21, 9, 10, 11, 12, 14, 15, 16, 17, 19, 22, 23, 24, 25] nd (by decide)
  have hwl : wv.length = nR := by rw [StrsAre.len hwv, List.length_map, GR.len]
  refine seg13 ⟨rfl, rfl⟩ (s := s) (rst := (x, instObj 112 dx) :: (dx, lexD w.params a1 a2 a3 a4 a5 n tn f1 l) :: (l, listOf #[] e9) :: (Ds, listOf (List.toArray us) e) :: (f1, fo) :: (dd, od) :: (f2, ro) :: (cell, co) :: (c3, o3) :: (118, tabObj #[rawInt 163, rawInt 13, .ref k1, rawInt 164, rawInt 18, .ref k2]) :: (k1, lo1) :: (k2, lo2) :: []) (G := Ga) (lf := (runS nR st).1) (st := st) (v10 := none) B r GR hnR TG OK.len OK.lt OK.inc hrw hws hzs hsts hst3 hst4 hwl LW.2 d2 d5 d7 d8 d10 F N nd hmw ?_
  clear F N nd TG d10
  intro h t mc o10 Gb F N nd TG hme13
  replace N : News g L h ((x, instObj 112 dx) :: (dx, lexD w.params a1 a2 a3 a4 a5 n tn f1 l) :: (l, listOf #[] e9) :: (f1, fo) :: (dd, od) :: (f2, ro) :: (cell, co) :: (Ds, listOf (List.toArray us) e) :: (c3, o3) :: (Gb ++ ((118, tabObj #[rawInt 163, rawInt 13, .ref k1, rawInt 164, rawInt 18, .ref k2]) :: (k1, lo1) :: (k2, lo2) :: []))) := news_blk (bs := [[(Dw2, listOf (List.toArray rw2) e12)], [(Dh, listOf (List.toArray ws) e6)], [(Dl, listOf (List.toArray zs) el)], [(Dst, listOf (List.toArray sts) est)], [(Dw, listOf (List.toArray wv) ew)], [(c2, o2)], [(c5, o5)], [(c7, o7)], [(c8, o8)], [(c10, o10)], [(x, instObj 112 dx)], [(dx, lexD w.params a1 a2 a3 a4 a5 n tn f1 l)], [(l, listOf #[] e9)], [(Ds, listOf (List.toArray us) e)], [(f1, fo)], [(dd, od)], [(f2, ro)], [(cell, co)], [(c3, o3)], [(118, tabObj #[rawInt 163, rawInt 13, .ref k1, rawInt 164, rawInt 18, .ref k2])], [(k1, lo1)], [(k2, lo2)], Gb]) [10, 11, 12, 14, 15, 16, 17, 13, 18, 22, 19, 20, 21] N
  replace nd : (x :: dx :: l :: f1 :: dd :: f2 :: cell :: Ds :: c3 :: ads ((Gb ++ ((118, tabObj #[rawInt 163, rawInt 13, .ref k1, rawInt 164, rawInt 18, .ref k2]) :: (k1, lo1) :: (k2, lo2) :: [])))).Nodup := nd_blk (bs := [[(Dw2, listOf (List.toArray rw2) e12)], [(Dh, listOf (List.toArray ws) e6)], [(Dl, listOf (List.toArray zs) el)], [(Dst, listOf (List.toArray sts) est)], [(Dw, listOf (List.toArray wv) ew)], [(c2, o2)], [(c5, o5)], [(c7, o7)], [(c8, o8)], [(c10, o10)], [(x, instObj 112 dx)], [(dx, lexD w.params a1 a2 a3 a4 a5 n tn f1 l)], [(l, listOf #[] e9)], [(Ds, listOf (List.toArray us) e)], [(f1, fo)], [(dd, od)], [(f2, ro)], [(cell, co)], [(c3, o3)], [(118, tabObj #[rawInt 163, rawInt 13, .ref k1, rawInt 164, rawInt 18, .ref k2])], [(k1, lo1)], [(k2, lo2)], Gb]) [10, 11, 12, 14, 15, 16, 17, 13, 18, 22, 19, 20, 21] nd (by decide)
  have ht1 : (textOf R ++ [122]).count 10 ≤ 100 := by
    refine Nat.le_trans (List.count_le_length) ?_
    rw [List.length_append, List.length_singleton]; omega
  refine seg14 ⟨rfl, rfl⟩ (s := s) (rst := Gb) (pre := pre) (tot := 1 + (textOf R ++ [122]).count 10) B r M TL hpre hch hn0 ?hcn (by omega) d3 F N nd ?_
  case hcn => rw [hcn]; rfl
  clear F N nd
  intro h t tn us e F N nd
  replace N : News g L h ((x, instObj 112 dx) :: (dx, lexD w.params a1 a2 a3 a4 a5 ((1 + (textOf R ++ [122]).count 10 : Nat) : Int) tn f1 l) :: (c3, o3) :: (Gb ++ ((118, tabObj #[rawInt 163, rawInt 13, .ref k1, rawInt 164, rawInt 18, .ref k2]) :: (k1, lo1) :: (k2, lo2) :: []))) := news_blk (bs := [[(x, instObj 112 dx)], [(dx, lexD w.params a1 a2 a3 a4 a5 ((1 + (textOf R ++ [122]).count 10 : Nat) : Int) tn f1 l)], [(l, listOf #[] e9)], [(f1, fo)], [(dd, od)], [(f2, ro)], [(cell, co)], [(Ds, listOf (List.toArray us) e)], [(c3, o3)], Gb, [(118, tabObj #[rawInt 163, rawInt 13, .ref k1, rawInt 164, rawInt 18, .ref k2])], [(k1, lo1)], [(k2, lo2)]]) [0, 1, 8, 9, 10, 11, 12] N
  replace nd : (x :: dx :: c3 :: ads ((Gb ++ ((118, tabObj #[rawInt 163, rawInt 13, .ref k1, rawInt 164, rawInt 18, .ref k2]) :: (k1, lo1) :: (k2, lo2) :: [])))).Nodup := nd_blk (bs := [[(x, instObj 112 dx)], [(dx, lexD w.params a1 a2 a3 a4 a5 ((1 + (textOf R ++ [122]).count 10 : Nat) : Int) tn f1 l)], [(l, listOf #[] e9)], [(f1, fo)], [(dd, od)], [(f2, ro)], [(cell, co)], [(Ds, listOf (List.toArray us) e)], [(c3, o3)], Gb, [(118, tabObj #[rawInt 163, rawInt 13, .ref k1, rawInt 164, rawInt 18, .ref k2])], [(k1, lo1)], [(k2, lo2)]]) [0, 1, 8, 9, 10, 11, 12] nd (by decide)
  refine seg15 ⟨rfl, rfl⟩ (s := s) (tx := textOf R ++ [122]) B r (by rw [List.length_append, List.length_singleton]; omega) d3 F N ((hme13 _ (by decide)).trans ((hme12 _ (by decide)).trans ((hme9 _ (by decide)).trans f6t))) (fun t => ?_)
  exact hQ h t _ Gb k1 k2 lo1 lo2 F (fun p hp => N p (.tail _ (.tail _ (.tail _ hp)))) TG
end
section
example : True := by w_top off; trivial
theorem law_ok (hK : PySem.Challenge.rw_pg0241_01 = PySem.Challenge.rw_pg0241_01 ∧ heapK = heapK) {w : World} {A : Around} {R : Result → Shared → Prop} {s : Shared} {g : Heap} {S : Addr} {vs : List Value} {ns : List Int} {G : List (Addr × Obj)}
  (B : Bs w g) (hg : Sub g s.heap) (hr : Rm A 81) (TG : Tabs G) (O : Own g s.heap (G ++ [(118, tabObj #[])])) (ndo : (ads (G ++ [(118, tabObj #[])])).Nodup) (hS : g.IsList S vs.toArray) (hits : IntsAre vs ns) (hn63 : ns.length ≤ 63)
  (hR : ∀ h' t, Sub g h' → GrownAt 118 h' → GrownAt 48 h' → GrownAt 55 h' → R (.ok (.ret (.bool true))) (At s h' t)) :
  codeAny (model P0 w) A (.call (.ref 147) ⟨[.ref S], []⟩) R s := by
  revert hK; k_fill; intro hK; clear hK
  refine enterC (k := 80) [("script", .ref S)] (fun y => if y = "script" then some (.ref S) else none) (fun y => none) B hg O ndo (by k_is) (by k_is) hr (by exact BindsTo.of_eq rfl) rfl (by decide +kernel) (fun _ => rfl) (fun _ => rfl) (fun g₁ L h₁ tk cells gg kp gs fr fr2 hL hLs B₁ F N Y nd dA fA gA uA r => ?_)
  obtain ⟨p, loose, mean, mg, mb, T⟩ := B₁.T
  have X := B₁.X
  change CellsAre (fun _ => none) [("m", ((((((((((L + 1) + 1) + 1) + 1) + 1) + 1) + 1) + 1) + 1) + 1)), ("step", (((((((((L + 1) + 1) + 1) + 1) + 1) + 1) + 1) + 1) + 1)), ("left", ((((((((L + 1) + 1) + 1) + 1) + 1) + 1) + 1) + 1)), ("steps", (((((((L + 1) + 1) + 1) + 1) + 1) + 1) + 1)), ("taken", ((((((L + 1) + 1) + 1) + 1) + 1) + 1)), ("whole", (((((L + 1) + 1) + 1) + 1) + 1)), ("number", ((((L + 1) + 1) + 1) + 1)), ("reader", (((L + 1) + 1) + 1)), ("words", ((L + 1) + 1)), ("letters", (L + 1))] cells at Y
  rcases Y with _ | ⟨e1, Y⟩
  rcases Y with _ | ⟨e2, Y⟩
  rcases Y with _ | ⟨e3, Y⟩
  rcases Y with _ | ⟨e4, Y⟩
  rcases Y with _ | ⟨e5, Y⟩
  rcases Y with _ | ⟨e6, Y⟩
  rcases Y with _ | ⟨e7, Y⟩
  rcases Y with _ | ⟨e8, Y⟩
  rcases Y with _ | ⟨e9, Y⟩
  rcases Y with _ | ⟨e10, Y⟩
  cases Y
  refine law_body ⟨rfl, rfl⟩ (s := s) (Q := fun fl s' => R (.ok (.ret (match fl with | .ret v => v | _ => .none))) s') B₁ r (by obtain ⟨o, ho, hc, n, hd⟩ := hS; exact ⟨o, gg _ _ ho, hc, n, hd⟩) hits hn63 rfl TG e10 e9 e8 e7 e6 e5 e4 e3 e2 e1 F ?hN ?hnd (fun h t m G k1 k2 lo1 lo2 F N TG => ?_)
  case hN => exact news_blk (bs := [[(L + 1 + 1 + 1 + 1 + 1 + 1 + 1 + 1 + 1 + 1, _)], [(L + 1 + 1 + 1 + 1 + 1 + 1 + 1 + 1 + 1, _)], [(L + 1 + 1 + 1 + 1 + 1 + 1 + 1 + 1, _)], [(L + 1 + 1 + 1 + 1 + 1 + 1 + 1, _)], [(L + 1 + 1 + 1 + 1 + 1 + 1, _)], [(L + 1 + 1 + 1 + 1 + 1, _)], [(L + 1 + 1 + 1 + 1, _)], [(L + 1 + 1 + 1, _)], [(L + 1 + 1, _)], [(L + 1, _)], G, [(118, tabObj #[])]]) [9, 8, 7, 6, 5, 4, 3, 2, 1, 0, 10, 11] N
  case hnd => exact nd_blk (bs := [[(L + 1 + 1 + 1 + 1 + 1 + 1 + 1 + 1 + 1 + 1, _)], [(L + 1 + 1 + 1 + 1 + 1 + 1 + 1 + 1 + 1, _)], [(L + 1 + 1 + 1 + 1 + 1 + 1 + 1 + 1, _)], [(L + 1 + 1 + 1 + 1 + 1 + 1 + 1, _)], [(L + 1 + 1 + 1 + 1 + 1 + 1, _)], [(L + 1 + 1 + 1 + 1 + 1, _)], [(L + 1 + 1 + 1 + 1, _)], [(L + 1 + 1 + 1, _)], [(L + 1 + 1, _)], [(L + 1, _)], G, [(118, tabObj #[])]]) [9, 8, 7, 6, 5, 4, 3, 2, 1, 0, 10, 11] nd (by decide)
  obtain ⟨G1, G2, rfl, TG1, TG2⟩ := TG
  have h1 : ∀ P ln col q X, TabSt P ln col q X → ∃ ps, (P, tabObj ps) ∈ X := by
    intro P ln col q X hX
    cases hX with
    | fresh => exact ⟨_, .head _⟩
    | made _ _ => exact ⟨_, .head _⟩
  obtain ⟨p1, q1⟩ := h1 _ _ _ _ _ TG1
  obtain ⟨p2, q2⟩ := h1 _ _ _ _ _ TG2
  exact hR h t (gg.trans F.keep) (GrownAt.of N (List.mem_append_right _ (.head _))) (GrownAt.of N (List.mem_append_left _ (List.mem_append_right _ q1))) (GrownAt.of N (List.mem_append_left _ (List.mem_append_left _ q2)))
end
section
example : True := by w_top off; trivial
theorem said : PySem.Challenge.rw_pg0241_01.wellSaid = true := by
  rw [PySem.W.Fast.te9446332074065402090]
  decide +kernel
noncomputable abbrev hook : Hook := kmHook heapK keysK (fun _ => by kernel_rfl) [118, 48, 55]
abbrev looseN : List Str := [Str.ofString "bisect_right", Str.ofString "bisect_left"]
theorem hleft : LeftO PySem.Challenge.rw_pg0241_01.row.prog view looseN (fun s => xlAt view [] s && recOk (RowW.records PySem.Challenge.rw_pg0241_01.row.toRowW) s) hook.obs hook.val 1736 := by
  intro w
  delta openEnds fencedOpening topFrom
  rw [PySem.W.Fast.te14364793385576792824, PySem.W.Fast.te10274390034422433532, PySem.W.Fast.te14082659384304107361, PySem.W.Fast.te14289696077712309145, PySem.W.Fast.te4187177175401517315, PySem.W.Fast.te5923862056798008813, PySem.W.Fast.te1435165496053646825, PySem.W.Fast.te8920871248978507458]
  kernel_rfl
theorem head (hc : ∀ d kwd, defOf view PySem.Challenge.rw_pg0241_01.row.name = some (d, kwd) → WalkO view looseN (XL view []) (kmHook heapK keysK (fun _ => by kernel_rfl) [118, 48, 55]).says PySem.Challenge.rw_pg0241_01.row.toRowW d kwd fun f vs => PySem.call f vs) : PySem.Challenge.rw_pg0241_01.Holds := by
  refine holds_law said fun ws => ?_
  refine holds_open (q := view) (loose := looseN) (Xt := fun s => xlAt view [] s && recOk (RowW.records PySem.Challenge.rw_pg0241_01.row.toRowW) s) (XP := XL view []) (Yf := hook.obs) (Ya := hook.val) (YP := hook.says) (N := 1736) hleft hook.of hook.keeps (fun s e => xl_of s (Bool.and_eq_true_iff.mp e).1) XL.keeps (by rfl) (by rfl) (by rfl) (fun s e => recFacts_of (Bool.and_eq_true_iff.mp e).2) (by rfl) (by first | assumption | decide +kernel) (by decide +kernel) ⟨rfl, rfl, rfl, rfl, rfl, by decide +kernel⟩ ?hw (hc _ _ (by rfl))
  case hw => w_witness2
end
section
example : True := by w_top off; trivial
theorem t0 : PySem.Challenge.rw_pg0241_01.Holds := head (by
  intro d kwd hdef
  k_fill
  intro w s₀ s₁ mg mb G Y fa o pm cd doc dV kV ho hd9 hcd hD hmg hg args vals as hpre hlay hrd hwl hlo
  have hdn : d.name = Str.ofString "law" := defOf_name hdef
  rw [hdn] at hmg
  have KX := km_in_of Y
  km_tabs Y
  have X := (Ground.X G).1
  have V := (Ground.X G).2
  refine Ground.open G ?_
  intro T B D TE TW
  try (refine guard_noD D (by decide +kernel) ?_; clear D)
  have hfa := hmg
  rw [mg_of KX (Top.g T) (show nsIn (heapK w.params) mainGlobals (PySem.Str.ofString "law") = some (some (.ref 147)) from by kernel_rfl)] at hfa
  injection hfa with hfa
  injection hfa with hfa
  km_lay T hmg ho hd9 cd
  clear hmg
  wrow_args hpre hlay hrd hwl hlo
  all_goals clear hd9 ho hcd hD
  subst hfa
  refine enter_call ?_
  refine kn_post hT9 (fun _ _ => rfl) ?_
  with_reducible rename Heap.IsList _ _ _ => hL
  with_reducible rename IntsAre _ _ => hI
  with_reducible rename ¬ (_ < _) => h63
  have CA := ghost_code hT9
  have out : ∀ P ∈ [118, 48, 55], (ghostOf s₁.heap [(122, 118), (52, 48), (59, 55)]).get? P = none := fun P hP => hideAll_none _ hP
  refine law_ok ⟨rfl, rfl⟩ (g := ghostOf s₁.heap [(122, 118), (52, 48), (59, 55)]) (G := [(55, tabObj #[])] ++ [(48, tabObj #[])]) ⟨ghost_K hT9 KX (by kernel_rfl), ⟨_, _, _, _, _, ghost_top hT9 T⟩, CA.2.1, CA.2.2.1, CA.1⟩ (fun b o e => of_hideAll _ e) ⟨rfl, by decide, by decide⟩ ⟨[(48, tabObj #[])], [(55, tabObj #[])], rfl, .fresh, .fresh⟩ ?own ?ndo (ghost_list hT9 hL) hI (by omega) (fun h' t k g1 g2 g3 => ?fin)
  case own =>
    exact Own.cons (hT8 55 (by decide)) (out 55 (by decide)) (Own.cons (hT8 48 (by decide)) (out 48 (by decide)) (Own.cons (hT8 118 (by decide)) (out 118 (by decide)) Own.nil))
  case ndo => decide
  case fin =>
    refine ⟨⟨.inl ⟨_, .bool true, [], rfl, raisesW_false ?hn, .bool true, ?hp, unshared_nil⟩, k, rfl, hg⟩, g1, g2, g3, trivial⟩
    case hn => wrow_none_raised
    case hp => kc_post
)
end
end Mine
set_option maxRecDepth 100000 in
set_option maxHeartbeats 8000000 in
theorem PySem.Challenge.cw_pg0241_01_holds : PySem.Challenge.rw_pg0241_01.Holds := by
  exact Mine.t0
