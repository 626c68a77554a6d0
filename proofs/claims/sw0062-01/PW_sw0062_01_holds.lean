import PyProof.Rows.All
import Wide.All
import OpenK.AllK
import Wide.FinOn
import Lean
import PySem.Challenge.RW_sw0062_01
open PySem PySem.W PyProof.Rows PySem.Calls
set_option Elab.async false
set_option maxRecDepth 100000
set_option maxHeartbeats 8000000
set_option linter.unusedVariables false
namespace Mine
noncomputable def ViewQ : Program := by
  refine (?f : (PySem.Challenge.pw_sw0062_01.main.body = [?c0, ?c1, ?c2, ?c3, ?c4, ?c5, ?c6, ?c7, ?c8, ?c9, ?c10, ?c11, ?c12, ?c13, ?c14, ?c15, ?c16, ?c17, ?c18, ?c19, ?c20, ?c21, ?c22, ?c23, ?c24, ?c25, ?c26, ?c27, ?c28, ?c29, ?c30, ?c31]) → Program) ?h
  case h => rfl
  case f => exact fun _ => { PySem.Challenge.pw_sw0062_01 with main := { PySem.Challenge.pw_sw0062_01.main with body := [?c0, ?c2, ?c4, ?c5, ?c7, ?c8, ?c9, ?c10, ?c11, ?c12, ?c13, ?c14, ?c15, ?c16, ?c17, ?c18, ?c19, ?c20, ?c21, ?c23, ?c24, ?c25, ?c26, ?c27, ?c28, ?c29, ?c30, ?c31] } }
noncomputable def HeapK : Params → Frag := by
  refine (?f : (PySem.Challenge.pw_sw0062_01.main.body = [Stmt.FunctionDef ?n0 ?p0 ?b0 ?d0 ?r0 ?t0 ?s0 ?u0 ?v0 ?w0,
    ?c1,
    Stmt.ClassDef ?n2 ?p2 ?b2 [?cm0, Stmt.FunctionDef ?nm1 ?pm1 ?bm1 ?dm1 ?rm1 ?tm1 ?sm1 ?um1 ?vm1 ?wm1, Stmt.FunctionDef ?nm2 ?pm2 ?bm2 ?dm2 ?rm2 ?tm2 ?sm2 ?um2 ?vm2 ?wm2, Stmt.FunctionDef ?nm3 ?pm3 ?bm3 ?dm3 ?rm3 ?tm3 ?sm3 ?um3 ?vm3 ?wm3, Stmt.FunctionDef ?nm4 ?pm4 ?bm4 ?dm4 ?rm4 ?tm4 ?sm4 ?um4 ?vm4 ?wm4, Stmt.FunctionDef ?nm5 ?pm5 ?bm5 ?dm5 ?rm5 ?tm5 ?sm5 ?um5 ?vm5 ?wm5, Stmt.FunctionDef ?nm6 ?pm6 ?bm6 ?dm6 ?rm6 ?tm6 ?sm6 ?um6 ?vm6 ?wm6, Stmt.FunctionDef ?nm7 ?pm7 ?bm7 ?dm7 ?rm7 ?tm7 ?sm7 ?um7 ?vm7 ?wm7] ?d2 ?r2 ?t2 ?s2 ?u2 ?v2 ?w2,
    ?c3,
    ?c4,
    Stmt.FunctionDef ?n5 ?p5 ?b5 ?d5 ?r5 ?t5 ?s5 ?u5 ?v5 ?w5,
    ?c6,
    Stmt.FunctionDef ?n7 ?p7 ?b7 ?d7 ?r7 ?t7 ?s7 ?u7 ?v7 ?w7,
    Stmt.FunctionDef ?n8 ?p8 ?b8 ?d8 ?r8 ?t8 ?s8 ?u8 ?v8 ?w8,
    Stmt.FunctionDef ?n9 ?p9 ?b9 ?d9 ?r9 ?t9 ?s9 ?u9 ?v9 ?w9,
    Stmt.FunctionDef ?n10 ?p10 ?b10 ?d10 ?r10 ?t10 ?s10 ?u10 ?v10 ?w10,
    Stmt.FunctionDef ?n11 ?p11 ?b11 ?d11 ?r11 ?t11 ?s11 ?u11 ?v11 ?w11,
    Stmt.FunctionDef ?n12 ?p12 ?b12 ?d12 ?r12 ?t12 ?s12 ?u12 ?v12 ?w12,
    Stmt.FunctionDef ?n13 ?p13 ?b13 ?d13 ?r13 ?t13 ?s13 ?u13 ?v13 ?w13,
    Stmt.FunctionDef ?n14 ?p14 ?b14 ?d14 ?r14 ?t14 ?s14 ?u14 ?v14 ?w14,
    Stmt.FunctionDef ?n15 ?p15 ?b15 ?d15 ?r15 ?t15 ?s15 ?u15 ?v15 ?w15,
    Stmt.FunctionDef ?n16 ?p16 ?b16 ?d16 ?r16 ?t16 ?s16 ?u16 ?v16 ?w16,
    Stmt.FunctionDef ?n17 ?p17 ?b17 ?d17 ?r17 ?t17 ?s17 ?u17 ?v17 ?w17,
    Stmt.FunctionDef ?n18 ?p18 ?b18 ?d18 ?r18 ?t18 ?s18 ?u18 ?v18 ?w18,
    Stmt.FunctionDef ?n19 ?p19 ?b19 ?d19 ?r19 ?t19 ?s19 ?u19 ?v19 ?w19,
    Stmt.FunctionDef ?n20 ?p20 ?b20 ?d20 ?r20 ?t20 ?s20 ?u20 ?v20 ?w20,
    Stmt.FunctionDef ?n21 ?p21 ?b21 ?d21 ?r21 ?t21 ?s21 ?u21 ?v21 ?w21,
    ?c22,
    Stmt.FunctionDef ?n23 ?p23 ?b23 ?d23 ?r23 ?t23 ?s23 ?u23 ?v23 ?w23,
    Stmt.FunctionDef ?n24 ?p24 ?b24 ?d24 ?r24 ?t24 ?s24 ?u24 ?v24 ?w24,
    Stmt.FunctionDef ?n25 ?p25 ?b25 ?d25 ?r25 ?t25 ?s25 ?u25 ?v25 ?w25,
    Stmt.FunctionDef ?n26 ?p26 ?b26 ?d26 ?r26 ?t26 ?s26 ?u26 ?v26 ?w26,
    Stmt.FunctionDef ?n27 ?p27 ?b27 ?d27 ?r27 ?t27 ?s27 ?u27 ?v27 ?w27,
    Stmt.FunctionDef ?n28 ?p28 ?b28 ?d28 ?r28 ?t28 ?s28 ?u28 ?v28 ?w28,
    Stmt.FunctionDef ?n29 ?p29 ?b29 ?d29 ?r29 ?t29 ?s29 ?u29 ?v29 ?w29,
    Stmt.FunctionDef ?n30 ?p30 ?b30 ?d30 ?r30 ?t30 ?s30 ?u30 ?v30 ?w30,
    Stmt.FunctionDef ?n31 ?p31 ?b31 ?d31 ?r31 ?t31 ?s31 ?u31 ?v31 ?w31]) → Params → Frag) ?h
  case h => rfl
  case f => exact fun _ P => (
    (nat_lit 2, ({ cls := Value.none, dict := @Option.none Nat, data := Data.dict #[] (0:Nat) } : Obj)) ::
    (nat_lit 3, ({ cls := Value.type "dict", dict := @Option.none Nat, data := Data.dict (List.toArray ({ hash := PyData.keyHash P (Str.ofString "__name__"), key := Value.str (Str.ofString "__name__") (165:Nat), val := Value.str (Str.ofString "law_sw0062_01") (434:Nat) } :: { hash := PyData.keyHash P (Str.ofString "__doc__"), key := Value.str (Str.ofString "__doc__") (166:Nat), val := Value.none } :: { hash := PyData.keyHash P (Str.ofString "__package__"), key := Value.str (Str.ofString "__package__") (167:Nat), val := Value.none } :: { hash := PyData.keyHash P (Str.ofString "__loader__"), key := Value.str (Str.ofString "__loader__") (168:Nat), val := Value.builtin "__main__.__loader__#opaque" } :: { hash := PyData.keyHash P (Str.ofString "__spec__"), key := Value.str (Str.ofString "__spec__") (169:Nat), val := Value.none } :: { hash := PyData.keyHash P (Str.ofString "__annotations__"), key := Value.str (Str.ofString "__annotations__") (170:Nat), val := Value.ref (6:Nat) } :: { hash := PyData.keyHash P (Str.ofString "__builtins__"), key := Value.str (Str.ofString "__builtins__") (171:Nat), val := Value.ref (4:Nat) } :: { hash := PyData.keyHash P (Str.ofString "__file__"), key := Value.str (Str.ofString "__file__") (173:Nat), val := Value.str (Str.ofString "/claim/cut.py") (172:Nat) } :: { hash := PyData.keyHash P (Str.ofString "__cached__"), key := Value.str (Str.ofString "__cached__") (174:Nat), val := Value.none } :: { hash := PyData.keyHash P (Str.ofString "_wall"), key := Value.str (Str.ofString "_wall") (193:Nat), val := Value.ref (21:Nat) } :: { hash := PyData.keyHash P (Str.ofString "Whitespace"), key := Value.str (Str.ofString "Whitespace") (295:Nat), val := Value.ref (83:Nat) } :: { hash := PyData.keyHash P (Str.ofString "ELLIPSIS_MARKER"), key := Value.str (Str.ofString "ELLIPSIS_MARKER") (299:Nat), val := Value.str (Str.ofString "...") (298:Nat) } :: { hash := PyData.keyHash P (Str.ofString "_ellipsis_match"), key := Value.str (Str.ofString "_ellipsis_match") (311:Nat), val := Value.ref (94:Nat) } :: { hash := PyData.keyHash P (Str.ofString "le"), key := Value.str (Str.ofString "le") (321:Nat), val := Value.ref (101:Nat) } :: { hash := PyData.keyHash P (Str.ofString "ge"), key := Value.str (Str.ofString "ge") (329:Nat), val := Value.ref (108:Nat) } :: { hash := PyData.keyHash P (Str.ofString "add"), key := Value.str (Str.ofString "add") (337:Nat), val := Value.ref (115:Nat) } :: { hash := PyData.keyHash P (Str.ofString "and_"), key := Value.str (Str.ofString "and_") (345:Nat), val := Value.ref (122:Nat) } :: { hash := PyData.keyHash P (Str.ofString "floordiv"), key := Value.str (Str.ofString "floordiv") (353:Nat), val := Value.ref (129:Nat) } :: { hash := PyData.keyHash P (Str.ofString "inv"), key := Value.str (Str.ofString "inv") (360:Nat), val := Value.ref (136:Nat) } :: { hash := PyData.keyHash P (Str.ofString "lshift"), key := Value.str (Str.ofString "lshift") (368:Nat), val := Value.ref (143:Nat) } :: { hash := PyData.keyHash P (Str.ofString "mod"), key := Value.str (Str.ofString "mod") (376:Nat), val := Value.ref (150:Nat) } :: { hash := PyData.keyHash P (Str.ofString "mul"), key := Value.str (Str.ofString "mul") (384:Nat), val := Value.ref (157:Nat) } :: { hash := PyData.keyHash P (Str.ofString "neg"), key := Value.str (Str.ofString "neg") (391:Nat), val := Value.ref (164:Nat) } :: { hash := PyData.keyHash P (Str.ofString "or_"), key := Value.str (Str.ofString "or_") (399:Nat), val := Value.ref (171:Nat) } :: { hash := PyData.keyHash P (Str.ofString "contains"), key := Value.str (Str.ofString "contains") (407:Nat), val := Value.ref (178:Nat) } :: { hash := PyData.keyHash P (Str.ofString "countOf"), key := Value.str (Str.ofString "countOf") (417:Nat), val := Value.ref (185:Nat) } :: { hash := PyData.keyHash P (Str.ofString "delitem"), key := Value.str (Str.ofString "delitem") (425:Nat), val := Value.ref (192:Nat) } :: { hash := PyData.keyHash P (Str.ofString "getitem"), key := Value.str (Str.ofString "getitem") (433:Nat), val := Value.ref (199:Nat) } :: { hash := PyData.keyHash P (Str.ofString "_law_leads"), key := Value.str (Str.ofString "_law_leads") (445:Nat), val := Value.ref (206:Nat) } :: { hash := PyData.keyHash P (Str.ofString "_law_hung"), key := Value.str (Str.ofString "_law_hung") (451:Nat), val := Value.ref (211:Nat) } :: { hash := PyData.keyHash P (Str.ofString "_law_cuts"), key := Value.str (Str.ofString "_law_cuts") (463:Nat), val := Value.ref (218:Nat) } :: { hash := PyData.keyHash P (Str.ofString "_law_simplest"), key := Value.str (Str.ofString "_law_simplest") (476:Nat), val := Value.ref (225:Nat) } :: { hash := PyData.keyHash P (Str.ofString "_law_played"), key := Value.str (Str.ofString "_law_played") (482:Nat), val := Value.ref (230:Nat) } :: { hash := PyData.keyHash P (Str.ofString "_law_columns"), key := Value.str (Str.ofString "_law_columns") (488:Nat), val := Value.ref (235:Nat) } :: { hash := PyData.keyHash P (Str.ofString "_law_owners"), key := Value.str (Str.ofString "_law_owners") (494:Nat), val := Value.ref (240:Nat) } :: { hash := PyData.keyHash P (Str.ofString "_law_due"), key := Value.str (Str.ofString "_law_due") (500:Nat), val := Value.ref (245:Nat) } :: { hash := PyData.keyHash P (Str.ofString "law"), key := Value.str (Str.ofString "law") (506:Nat), val := Value.ref (250:Nat) } :: [])) (37:Nat) } : Obj)) ::
    (nat_lit 15, ({ cls := Value.type "tuple", dict := @Option.none Nat, data := Data.seq #[] (0:Nat) } : Obj)) ::
    (nat_lit 17, ({ cls := Value.type "tuple", dict := @Option.none Nat, data := Data.seq #[Value.str (Str.ofString "k") (190:Nat)] (0:Nat) } : Obj)) ::
    (nat_lit 18, ({ cls := Value.type "tuple", dict := @Option.none Nat, data := Data.seq #[] (0:Nat) } : Obj)) ::
    (nat_lit 20, ({ cls := Value.type "code", dict := @Option.none Nat, data := Data.fields #[Value.str (Str.ofString "_wall") (187:Nat), Value.str (Str.ofString "_wall") (188:Nat), Value.str (Str.ofString "/claim/cut.py") (189:Nat), Value.int 1 (0:Nat), Value.int 1 (0:Nat), Value.int 0 (0:Nat), Value.int 0 (0:Nat), Value.int 3 (0:Nat), Value.ref (15:Nat), Value.bool true, Value.int 181 (0:Nat), Value.ref (16:Nat), Value.none, Value.ref (17:Nat), Value.ref (18:Nat), Value.ref (19:Nat), Value.int 191 (0:Nat), Value.int 1 (0:Nat), Value.str (Str.ofString "/claim/cut.py") (192:Nat)] } : Obj)) ::
    (nat_lit 21, ({ cls := Value.type "function", dict := @Option.none Nat, data := Data.func { name := Str.ofString "_wall", qualname := Str.ofString "_wall", params := ?p0, body := FuncBody.stmts ?b0, scope := ?s0, globals := (3:Nat), closure := (@List.nil (Str × Nat)), defaults := Value.none, kwdefaults := Value.none, pyModule := Value.str (Str.ofString "__main__") (164:Nat), annotations := @Option.none Nat, code := Value.ref (20:Nat), builtins := (0:Nat) } } : Obj)) ::
    (nat_lit 32, ({ cls := Value.type "tuple", dict := @Option.none Nat, data := Data.seq #[] (0:Nat) } : Obj)) ::
    (nat_lit 34, ({ cls := Value.type "tuple", dict := @Option.none Nat, data := Data.seq #[Value.str (Str.ofString "self") (216:Nat), Value.str (Str.ofString "ws") (217:Nat), Value.str (Str.ofString "S") (218:Nat), Value.str (Str.ofString "T") (219:Nat), Value.str (Str.ofString "count") (220:Nat), Value.str (Str.ofString "b") (221:Nat), Value.str (Str.ofString "n") (222:Nat), Value.str (Str.ofString "nt") (223:Nat), Value.str (Str.ofString "ch") (224:Nat)] (0:Nat) } : Obj)) ::
    (nat_lit 35, ({ cls := Value.type "tuple", dict := @Option.none Nat, data := Data.seq #[] (0:Nat) } : Obj)) ::
    (nat_lit 37, ({ cls := Value.type "code", dict := @Option.none Nat, data := Data.fields #[Value.str (Str.ofString "__init__") (213:Nat), Value.str (Str.ofString "Whitespace.__init__") (214:Nat), Value.str (Str.ofString "/claim/cut.py") (215:Nat), Value.int 8 (0:Nat), Value.int 2 (0:Nat), Value.int 0 (0:Nat), Value.int 0 (0:Nat), Value.int 3 (0:Nat), Value.ref (32:Nat), Value.bool true, Value.int 181 (0:Nat), Value.ref (33:Nat), Value.none, Value.ref (34:Nat), Value.ref (35:Nat), Value.ref (36:Nat), Value.int 225 (0:Nat), Value.int 8 (0:Nat), Value.str (Str.ofString "/claim/cut.py") (226:Nat)] } : Obj)) ::
    (nat_lit 38, ({ cls := Value.type "function", dict := @Option.none Nat, data := Data.func { name := Str.ofString "__init__", qualname := Str.ofString "Whitespace.__init__", params := ?pm1, body := FuncBody.stmts ?bm1, scope := ?sm1, globals := (3:Nat), closure := (@List.nil (Str × Nat)), defaults := Value.none, kwdefaults := Value.none, pyModule := Value.str (Str.ofString "cpy313.tabnanny") (194:Nat), annotations := @Option.none Nat, code := Value.ref (37:Nat), builtins := (0:Nat) } } : Obj)) ::
    (nat_lit 39, ({ cls := Value.type "tuple", dict := @Option.none Nat, data := Data.seq #[] (0:Nat) } : Obj)) ::
    (nat_lit 41, ({ cls := Value.type "tuple", dict := @Option.none Nat, data := Data.seq #[Value.str (Str.ofString "self") (231:Nat), Value.str (Str.ofString "count") (232:Nat), Value.str (Str.ofString "trailing") (233:Nat)] (0:Nat) } : Obj)) ::
    (nat_lit 42, ({ cls := Value.type "tuple", dict := @Option.none Nat, data := Data.seq #[] (0:Nat) } : Obj)) ::
    (nat_lit 44, ({ cls := Value.type "code", dict := @Option.none Nat, data := Data.fields #[Value.str (Str.ofString "longest_run_of_spaces") (228:Nat), Value.str (Str.ofString "Whitespace.longest_run_of_spaces") (229:Nat), Value.str (Str.ofString "/claim/cut.py") (230:Nat), Value.int 31 (0:Nat), Value.int 1 (0:Nat), Value.int 0 (0:Nat), Value.int 0 (0:Nat), Value.int 3 (0:Nat), Value.ref (39:Nat), Value.bool true, Value.int 181 (0:Nat), Value.ref (40:Nat), Value.none, Value.ref (41:Nat), Value.ref (42:Nat), Value.ref (43:Nat), Value.int 234 (0:Nat), Value.int 31 (0:Nat), Value.str (Str.ofString "/claim/cut.py") (235:Nat)] } : Obj)) ::
    (nat_lit 45, ({ cls := Value.type "function", dict := @Option.none Nat, data := Data.func { name := Str.ofString "longest_run_of_spaces", qualname := Str.ofString "Whitespace.longest_run_of_spaces", params := ?pm2, body := FuncBody.stmts ?bm2, scope := ?sm2, globals := (3:Nat), closure := (@List.nil (Str × Nat)), defaults := Value.none, kwdefaults := Value.none, pyModule := Value.str (Str.ofString "cpy313.tabnanny") (194:Nat), annotations := @Option.none Nat, code := Value.ref (44:Nat), builtins := (0:Nat) } } : Obj)) ::
    (nat_lit 46, ({ cls := Value.type "tuple", dict := @Option.none Nat, data := Data.seq #[] (0:Nat) } : Obj)) ::
    (nat_lit 48, ({ cls := Value.type "tuple", dict := @Option.none Nat, data := Data.seq #[Value.str (Str.ofString "self") (240:Nat), Value.str (Str.ofString "tabsize") (241:Nat), Value.str (Str.ofString "count") (242:Nat), Value.str (Str.ofString "trailing") (243:Nat), Value.str (Str.ofString "il") (244:Nat), Value.str (Str.ofString "i") (245:Nat)] (0:Nat) } : Obj)) ::
    (nat_lit 49, ({ cls := Value.type "tuple", dict := @Option.none Nat, data := Data.seq #[] (0:Nat) } : Obj)) ::
    (nat_lit 51, ({ cls := Value.type "code", dict := @Option.none Nat, data := Data.fields #[Value.str (Str.ofString "indent_level") (237:Nat), Value.str (Str.ofString "Whitespace.indent_level") (238:Nat), Value.str (Str.ofString "/claim/cut.py") (239:Nat), Value.int 35 (0:Nat), Value.int 2 (0:Nat), Value.int 0 (0:Nat), Value.int 0 (0:Nat), Value.int 3 (0:Nat), Value.ref (46:Nat), Value.bool true, Value.int 181 (0:Nat), Value.ref (47:Nat), Value.none, Value.ref (48:Nat), Value.ref (49:Nat), Value.ref (50:Nat), Value.int 246 (0:Nat), Value.int 35 (0:Nat), Value.str (Str.ofString "/claim/cut.py") (247:Nat)] } : Obj)) ::
    (nat_lit 52, ({ cls := Value.type "function", dict := @Option.none Nat, data := Data.func { name := Str.ofString "indent_level", qualname := Str.ofString "Whitespace.indent_level", params := ?pm3, body := FuncBody.stmts ?bm3, scope := ?sm3, globals := (3:Nat), closure := (@List.nil (Str × Nat)), defaults := Value.none, kwdefaults := Value.none, pyModule := Value.str (Str.ofString "cpy313.tabnanny") (194:Nat), annotations := @Option.none Nat, code := Value.ref (51:Nat), builtins := (0:Nat) } } : Obj)) ::
    (nat_lit 53, ({ cls := Value.type "tuple", dict := @Option.none Nat, data := Data.seq #[] (0:Nat) } : Obj)) ::
    (nat_lit 55, ({ cls := Value.type "tuple", dict := @Option.none Nat, data := Data.seq #[Value.str (Str.ofString "self") (252:Nat), Value.str (Str.ofString "other") (253:Nat)] (0:Nat) } : Obj)) ::
    (nat_lit 56, ({ cls := Value.type "tuple", dict := @Option.none Nat, data := Data.seq #[] (0:Nat) } : Obj)) ::
    (nat_lit 58, ({ cls := Value.type "code", dict := @Option.none Nat, data := Data.fields #[Value.str (Str.ofString "equal") (249:Nat), Value.str (Str.ofString "Whitespace.equal") (250:Nat), Value.str (Str.ofString "/claim/cut.py") (251:Nat), Value.int 42 (0:Nat), Value.int 2 (0:Nat), Value.int 0 (0:Nat), Value.int 0 (0:Nat), Value.int 3 (0:Nat), Value.ref (53:Nat), Value.bool true, Value.int 181 (0:Nat), Value.ref (54:Nat), Value.none, Value.ref (55:Nat), Value.ref (56:Nat), Value.ref (57:Nat), Value.int 254 (0:Nat), Value.int 42 (0:Nat), Value.str (Str.ofString "/claim/cut.py") (255:Nat)] } : Obj)) ::
    (nat_lit 59, ({ cls := Value.type "function", dict := @Option.none Nat, data := Data.func { name := Str.ofString "equal", qualname := Str.ofString "Whitespace.equal", params := ?pm4, body := FuncBody.stmts ?bm4, scope := ?sm4, globals := (3:Nat), closure := (@List.nil (Str × Nat)), defaults := Value.none, kwdefaults := Value.none, pyModule := Value.str (Str.ofString "cpy313.tabnanny") (194:Nat), annotations := @Option.none Nat, code := Value.ref (58:Nat), builtins := (0:Nat) } } : Obj)) ::
    (nat_lit 60, ({ cls := Value.type "tuple", dict := @Option.none Nat, data := Data.seq #[] (0:Nat) } : Obj)) ::
    (nat_lit 62, ({ cls := Value.type "tuple", dict := @Option.none Nat, data := Data.seq #[Value.str (Str.ofString "self") (260:Nat), Value.str (Str.ofString "other") (261:Nat)] (0:Nat) } : Obj)) ::
    (nat_lit 63, ({ cls := Value.type "tuple", dict := @Option.none Nat, data := Data.seq #[] (0:Nat) } : Obj)) ::
    (nat_lit 65, ({ cls := Value.type "code", dict := @Option.none Nat, data := Data.fields #[Value.str (Str.ofString "not_equal_witness") (257:Nat), Value.str (Str.ofString "Whitespace.not_equal_witness") (258:Nat), Value.str (Str.ofString "/claim/cut.py") (259:Nat), Value.int 45 (0:Nat), Value.int 2 (0:Nat), Value.int 0 (0:Nat), Value.int 0 (0:Nat), Value.int 3 (0:Nat), Value.ref (60:Nat), Value.bool true, Value.int 181 (0:Nat), Value.ref (61:Nat), Value.none, Value.ref (62:Nat), Value.ref (63:Nat), Value.ref (64:Nat), Value.int 262 (0:Nat), Value.int 45 (0:Nat), Value.str (Str.ofString "/claim/cut.py") (263:Nat)] } : Obj)) ::
    (nat_lit 66, ({ cls := Value.type "function", dict := @Option.none Nat, data := Data.func { name := Str.ofString "not_equal_witness", qualname := Str.ofString "Whitespace.not_equal_witness", params := ?pm5, body := FuncBody.stmts ?bm5, scope := ?sm5, globals := (3:Nat), closure := (@List.nil (Str × Nat)), defaults := Value.none, kwdefaults := Value.none, pyModule := Value.str (Str.ofString "cpy313.tabnanny") (194:Nat), annotations := @Option.none Nat, code := Value.ref (65:Nat), builtins := (0:Nat) } } : Obj)) ::
    (nat_lit 67, ({ cls := Value.type "tuple", dict := @Option.none Nat, data := Data.seq #[] (0:Nat) } : Obj)) ::
    (nat_lit 69, ({ cls := Value.type "tuple", dict := @Option.none Nat, data := Data.seq #[Value.str (Str.ofString "self") (268:Nat), Value.str (Str.ofString "other") (269:Nat), Value.str (Str.ofString "n") (270:Nat), Value.str (Str.ofString "ts") (271:Nat)] (0:Nat) } : Obj)) ::
    (nat_lit 70, ({ cls := Value.type "tuple", dict := @Option.none Nat, data := Data.seq #[] (0:Nat) } : Obj)) ::
    (nat_lit 72, ({ cls := Value.type "code", dict := @Option.none Nat, data := Data.fields #[Value.str (Str.ofString "less") (265:Nat), Value.str (Str.ofString "Whitespace.less") (266:Nat), Value.str (Str.ofString "/claim/cut.py") (267:Nat), Value.int 48 (0:Nat), Value.int 2 (0:Nat), Value.int 0 (0:Nat), Value.int 0 (0:Nat), Value.int 3 (0:Nat), Value.ref (67:Nat), Value.bool true, Value.int 181 (0:Nat), Value.ref (68:Nat), Value.none, Value.ref (69:Nat), Value.ref (70:Nat), Value.ref (71:Nat), Value.int 272 (0:Nat), Value.int 48 (0:Nat), Value.str (Str.ofString "/claim/cut.py") (273:Nat)] } : Obj)) ::
    (nat_lit 73, ({ cls := Value.type "function", dict := @Option.none Nat, data := Data.func { name := Str.ofString "less", qualname := Str.ofString "Whitespace.less", params := ?pm6, body := FuncBody.stmts ?bm6, scope := ?sm6, globals := (3:Nat), closure := (@List.nil (Str × Nat)), defaults := Value.none, kwdefaults := Value.none, pyModule := Value.str (Str.ofString "cpy313.tabnanny") (194:Nat), annotations := @Option.none Nat, code := Value.ref (72:Nat), builtins := (0:Nat) } } : Obj)) ::
    (nat_lit 74, ({ cls := Value.type "tuple", dict := @Option.none Nat, data := Data.seq #[] (0:Nat) } : Obj)) ::
    (nat_lit 76, ({ cls := Value.type "tuple", dict := @Option.none Nat, data := Data.seq #[Value.str (Str.ofString "self") (278:Nat), Value.str (Str.ofString "other") (279:Nat)] (0:Nat) } : Obj)) ::
    (nat_lit 77, ({ cls := Value.type "tuple", dict := @Option.none Nat, data := Data.seq #[] (0:Nat) } : Obj)) ::
    (nat_lit 79, ({ cls := Value.type "code", dict := @Option.none Nat, data := Data.fields #[Value.str (Str.ofString "not_less_witness") (275:Nat), Value.str (Str.ofString "Whitespace.not_less_witness") (276:Nat), Value.str (Str.ofString "/claim/cut.py") (277:Nat), Value.int 59 (0:Nat), Value.int 2 (0:Nat), Value.int 0 (0:Nat), Value.int 0 (0:Nat), Value.int 3 (0:Nat), Value.ref (74:Nat), Value.bool true, Value.int 181 (0:Nat), Value.ref (75:Nat), Value.none, Value.ref (76:Nat), Value.ref (77:Nat), Value.ref (78:Nat), Value.int 280 (0:Nat), Value.int 59 (0:Nat), Value.str (Str.ofString "/claim/cut.py") (281:Nat)] } : Obj)) ::
    (nat_lit 80, ({ cls := Value.type "function", dict := @Option.none Nat, data := Data.func { name := Str.ofString "not_less_witness", qualname := Str.ofString "Whitespace.not_less_witness", params := ?pm7, body := FuncBody.stmts ?bm7, scope := ?sm7, globals := (3:Nat), closure := (@List.nil (Str × Nat)), defaults := Value.none, kwdefaults := Value.none, pyModule := Value.str (Str.ofString "cpy313.tabnanny") (194:Nat), annotations := @Option.none Nat, code := Value.ref (79:Nat), builtins := (0:Nat) } } : Obj)) ::
    (nat_lit 81, ({ cls := Value.type "tuple", dict := @Option.none Nat, data := Data.seq #[Value.str (Str.ofString "is_simple") (283:Nat), Value.str (Str.ofString "n") (284:Nat), Value.str (Str.ofString "norm") (285:Nat), Value.str (Str.ofString "nt") (286:Nat), Value.str (Str.ofString "raw") (287:Nat)] (0:Nat) } : Obj)) ::
    (nat_lit 82, ({ cls := Value.type "dict", dict := @Option.none Nat, data := Data.dict #[{ hash := PyData.keyHash P (Str.ofString "__module__"), key := Value.str (Str.ofString "__module__") (203:Nat), val := Value.str (Str.ofString "cpy313.tabnanny") (194:Nat) }, { hash := PyData.keyHash P (Str.ofString "__firstlineno__"), key := Value.str (Str.ofString "__firstlineno__") (207:Nat), val := Value.int 5 (206:Nat) }, { hash := PyData.keyHash P (Str.ofString "S"), key := Value.str (Str.ofString "S") (211:Nat), val := Value.str (Str.ofString " ") (209:Nat) }, { hash := PyData.keyHash P (Str.ofString "T"), key := Value.str (Str.ofString "T") (212:Nat), val := Value.str (Str.ofString "\t") (210:Nat) }, { hash := PyData.keyHash P (Str.ofString "__init__"), key := Value.str (Str.ofString "__init__") (227:Nat), val := Value.ref (38:Nat) }, { hash := PyData.keyHash P (Str.ofString "longest_run_of_spaces"), key := Value.str (Str.ofString "longest_run_of_spaces") (236:Nat), val := Value.ref (45:Nat) }, { hash := PyData.keyHash P (Str.ofString "indent_level"), key := Value.str (Str.ofString "indent_level") (248:Nat), val := Value.ref (52:Nat) }, { hash := PyData.keyHash P (Str.ofString "equal"), key := Value.str (Str.ofString "equal") (256:Nat), val := Value.ref (59:Nat) }, { hash := PyData.keyHash P (Str.ofString "not_equal_witness"), key := Value.str (Str.ofString "not_equal_witness") (264:Nat), val := Value.ref (66:Nat) }, { hash := PyData.keyHash P (Str.ofString "less"), key := Value.str (Str.ofString "less") (274:Nat), val := Value.ref (73:Nat) }, { hash := PyData.keyHash P (Str.ofString "not_less_witness"), key := Value.str (Str.ofString "not_less_witness") (282:Nat), val := Value.ref (80:Nat) }, { hash := PyData.keyHash P (Str.ofString "__static_attributes__"), key := Value.str (Str.ofString "__static_attributes__") (288:Nat), val := Value.ref (81:Nat) }, { hash := PyData.keyHash P (Str.ofString "__dict__"), key := Value.str (Str.ofString "__dict__") (290:Nat), val := Value.ref (84:Nat) }, { hash := PyData.keyHash P (Str.ofString "__weakref__"), key := Value.str (Str.ofString "__weakref__") (292:Nat), val := Value.ref (85:Nat) }, { hash := PyData.keyHash P (Str.ofString "__doc__"), key := Value.str (Str.ofString "__doc__") (293:Nat), val := Value.none }] (4:Nat) } : Obj)) ::
    (nat_lit 83, ({ cls := Value.type "type", dict := @Option.none Nat, data := Data.cls { name := Str.ofString "Whitespace", bases := [Value.type "object"], mro := [Value.ref (83:Nat), Value.type "object"], ns := (82:Nat), qualname := Str.ofString "Whitespace" }, slots := #[none, none, some (Value.str (Str.ofString "Whitespace") (196:Nat)), some (Value.str (Str.ofString "Whitespace") (204:Nat)), some (Value.builtin "object.__new__"), some (Value.bool true)] } : Obj)) ::
    (nat_lit 84, ({ cls := Value.type "getset_descriptor", dict := @Option.none Nat, data := Data.fields #[Value.str (Str.ofString "__dict__") (289:Nat), Value.ref (83:Nat), Value.builtin "function.__dict__", Value.builtin "function.__dict__#set"] } : Obj)) ::
    (nat_lit 85, ({ cls := Value.type "getset_descriptor", dict := @Option.none Nat, data := Data.fields #[Value.str (Str.ofString "__weakref__") (291:Nat), Value.ref (83:Nat), Value.builtin "ExceptionGroup.__weakref__", Value.none] } : Obj)) ::
    (nat_lit 88, ({ cls := Value.type "tuple", dict := @Option.none Nat, data := Data.seq #[] (0:Nat) } : Obj)) ::
    (nat_lit 90, ({ cls := Value.type "tuple", dict := @Option.none Nat, data := Data.seq #[Value.str (Str.ofString "want") (303:Nat), Value.str (Str.ofString "got") (304:Nat), Value.str (Str.ofString "ws") (305:Nat), Value.str (Str.ofString "startpos") (306:Nat), Value.str (Str.ofString "endpos") (307:Nat), Value.str (Str.ofString "w") (308:Nat)] (0:Nat) } : Obj)) ::
    (nat_lit 91, ({ cls := Value.type "tuple", dict := @Option.none Nat, data := Data.seq #[] (0:Nat) } : Obj)) ::
    (nat_lit 93, ({ cls := Value.type "code", dict := @Option.none Nat, data := Data.fields #[Value.str (Str.ofString "_ellipsis_match") (300:Nat), Value.str (Str.ofString "_ellipsis_match") (301:Nat), Value.str (Str.ofString "/claim/cut.py") (302:Nat), Value.int 63 (0:Nat), Value.int 2 (0:Nat), Value.int 0 (0:Nat), Value.int 0 (0:Nat), Value.int 3 (0:Nat), Value.ref (88:Nat), Value.bool true, Value.int 181 (0:Nat), Value.ref (89:Nat), Value.none, Value.ref (90:Nat), Value.ref (91:Nat), Value.ref (92:Nat), Value.int 309 (0:Nat), Value.int 63 (0:Nat), Value.str (Str.ofString "/claim/cut.py") (310:Nat)] } : Obj)) ::
    (nat_lit 94, ({ cls := Value.type "function", dict := @Option.none Nat, data := Data.func { name := Str.ofString "_ellipsis_match", qualname := Str.ofString "_ellipsis_match", params := ?p5, body := FuncBody.stmts ?b5, scope := ?s5, globals := (3:Nat), closure := (@List.nil (Str × Nat)), defaults := Value.none, kwdefaults := Value.none, pyModule := Value.str (Str.ofString "cpy313.doctest") (296:Nat), annotations := @Option.none Nat, code := Value.ref (93:Nat), builtins := (0:Nat) } } : Obj)) ::
    (nat_lit 95, ({ cls := Value.type "tuple", dict := @Option.none Nat, data := Data.seq #[] (0:Nat) } : Obj)) ::
    (nat_lit 97, ({ cls := Value.type "tuple", dict := @Option.none Nat, data := Data.seq #[Value.str (Str.ofString "a") (317:Nat), Value.str (Str.ofString "b") (318:Nat)] (0:Nat) } : Obj)) ::
    (nat_lit 98, ({ cls := Value.type "tuple", dict := @Option.none Nat, data := Data.seq #[] (0:Nat) } : Obj)) ::
    (nat_lit 100, ({ cls := Value.type "code", dict := @Option.none Nat, data := Data.fields #[Value.str (Str.ofString "le") (314:Nat), Value.str (Str.ofString "le") (315:Nat), Value.str (Str.ofString "/claim/cut.py") (316:Nat), Value.int 92 (0:Nat), Value.int 2 (0:Nat), Value.int 0 (0:Nat), Value.int 0 (0:Nat), Value.int 3 (0:Nat), Value.ref (95:Nat), Value.bool true, Value.int 181 (0:Nat), Value.ref (96:Nat), Value.none, Value.ref (97:Nat), Value.ref (98:Nat), Value.ref (99:Nat), Value.int 319 (0:Nat), Value.int 92 (0:Nat), Value.str (Str.ofString "/claim/cut.py") (320:Nat)] } : Obj)) ::
    (nat_lit 101, ({ cls := Value.type "function", dict := @Option.none Nat, data := Data.func { name := Str.ofString "le", qualname := Str.ofString "le", params := ?p7, body := FuncBody.stmts ?b7, scope := ?s7, globals := (3:Nat), closure := (@List.nil (Str × Nat)), defaults := Value.none, kwdefaults := Value.none, pyModule := Value.str (Str.ofString "cpy313.operator") (312:Nat), annotations := @Option.none Nat, code := Value.ref (100:Nat), builtins := (0:Nat) } } : Obj)) ::
    (nat_lit 102, ({ cls := Value.type "tuple", dict := @Option.none Nat, data := Data.seq #[] (0:Nat) } : Obj)) ::
    (nat_lit 104, ({ cls := Value.type "tuple", dict := @Option.none Nat, data := Data.seq #[Value.str (Str.ofString "a") (325:Nat), Value.str (Str.ofString "b") (326:Nat)] (0:Nat) } : Obj)) ::
    (nat_lit 105, ({ cls := Value.type "tuple", dict := @Option.none Nat, data := Data.seq #[] (0:Nat) } : Obj)) ::
    (nat_lit 107, ({ cls := Value.type "code", dict := @Option.none Nat, data := Data.fields #[Value.str (Str.ofString "ge") (322:Nat), Value.str (Str.ofString "ge") (323:Nat), Value.str (Str.ofString "/claim/cut.py") (324:Nat), Value.int 94 (0:Nat), Value.int 2 (0:Nat), Value.int 0 (0:Nat), Value.int 0 (0:Nat), Value.int 3 (0:Nat), Value.ref (102:Nat), Value.bool true, Value.int 181 (0:Nat), Value.ref (103:Nat), Value.none, Value.ref (104:Nat), Value.ref (105:Nat), Value.ref (106:Nat), Value.int 327 (0:Nat), Value.int 94 (0:Nat), Value.str (Str.ofString "/claim/cut.py") (328:Nat)] } : Obj)) ::
    (nat_lit 108, ({ cls := Value.type "function", dict := @Option.none Nat, data := Data.func { name := Str.ofString "ge", qualname := Str.ofString "ge", params := ?p8, body := FuncBody.stmts ?b8, scope := ?s8, globals := (3:Nat), closure := (@List.nil (Str × Nat)), defaults := Value.none, kwdefaults := Value.none, pyModule := Value.str (Str.ofString "cpy313.operator") (312:Nat), annotations := @Option.none Nat, code := Value.ref (107:Nat), builtins := (0:Nat) } } : Obj)) ::
    (nat_lit 109, ({ cls := Value.type "tuple", dict := @Option.none Nat, data := Data.seq #[] (0:Nat) } : Obj)) ::
    (nat_lit 111, ({ cls := Value.type "tuple", dict := @Option.none Nat, data := Data.seq #[Value.str (Str.ofString "a") (333:Nat), Value.str (Str.ofString "b") (334:Nat)] (0:Nat) } : Obj)) ::
    (nat_lit 112, ({ cls := Value.type "tuple", dict := @Option.none Nat, data := Data.seq #[] (0:Nat) } : Obj)) ::
    (nat_lit 114, ({ cls := Value.type "code", dict := @Option.none Nat, data := Data.fields #[Value.str (Str.ofString "add") (330:Nat), Value.str (Str.ofString "add") (331:Nat), Value.str (Str.ofString "/claim/cut.py") (332:Nat), Value.int 96 (0:Nat), Value.int 2 (0:Nat), Value.int 0 (0:Nat), Value.int 0 (0:Nat), Value.int 3 (0:Nat), Value.ref (109:Nat), Value.bool true, Value.int 181 (0:Nat), Value.ref (110:Nat), Value.none, Value.ref (111:Nat), Value.ref (112:Nat), Value.ref (113:Nat), Value.int 335 (0:Nat), Value.int 96 (0:Nat), Value.str (Str.ofString "/claim/cut.py") (336:Nat)] } : Obj)) ::
    (nat_lit 115, ({ cls := Value.type "function", dict := @Option.none Nat, data := Data.func { name := Str.ofString "add", qualname := Str.ofString "add", params := ?p9, body := FuncBody.stmts ?b9, scope := ?s9, globals := (3:Nat), closure := (@List.nil (Str × Nat)), defaults := Value.none, kwdefaults := Value.none, pyModule := Value.str (Str.ofString "cpy313.operator") (312:Nat), annotations := @Option.none Nat, code := Value.ref (114:Nat), builtins := (0:Nat) } } : Obj)) ::
    (nat_lit 116, ({ cls := Value.type "tuple", dict := @Option.none Nat, data := Data.seq #[] (0:Nat) } : Obj)) ::
    (nat_lit 118, ({ cls := Value.type "tuple", dict := @Option.none Nat, data := Data.seq #[Value.str (Str.ofString "a") (341:Nat), Value.str (Str.ofString "b") (342:Nat)] (0:Nat) } : Obj)) ::
    (nat_lit 119, ({ cls := Value.type "tuple", dict := @Option.none Nat, data := Data.seq #[] (0:Nat) } : Obj)) ::
    (nat_lit 121, ({ cls := Value.type "code", dict := @Option.none Nat, data := Data.fields #[Value.str (Str.ofString "and_") (338:Nat), Value.str (Str.ofString "and_") (339:Nat), Value.str (Str.ofString "/claim/cut.py") (340:Nat), Value.int 98 (0:Nat), Value.int 2 (0:Nat), Value.int 0 (0:Nat), Value.int 0 (0:Nat), Value.int 3 (0:Nat), Value.ref (116:Nat), Value.bool true, Value.int 181 (0:Nat), Value.ref (117:Nat), Value.none, Value.ref (118:Nat), Value.ref (119:Nat), Value.ref (120:Nat), Value.int 343 (0:Nat), Value.int 98 (0:Nat), Value.str (Str.ofString "/claim/cut.py") (344:Nat)] } : Obj)) ::
    (nat_lit 122, ({ cls := Value.type "function", dict := @Option.none Nat, data := Data.func { name := Str.ofString "and_", qualname := Str.ofString "and_", params := ?p10, body := FuncBody.stmts ?b10, scope := ?s10, globals := (3:Nat), closure := (@List.nil (Str × Nat)), defaults := Value.none, kwdefaults := Value.none, pyModule := Value.str (Str.ofString "cpy313.operator") (312:Nat), annotations := @Option.none Nat, code := Value.ref (121:Nat), builtins := (0:Nat) } } : Obj)) ::
    (nat_lit 123, ({ cls := Value.type "tuple", dict := @Option.none Nat, data := Data.seq #[] (0:Nat) } : Obj)) ::
    (nat_lit 125, ({ cls := Value.type "tuple", dict := @Option.none Nat, data := Data.seq #[Value.str (Str.ofString "a") (349:Nat), Value.str (Str.ofString "b") (350:Nat)] (0:Nat) } : Obj)) ::
    (nat_lit 126, ({ cls := Value.type "tuple", dict := @Option.none Nat, data := Data.seq #[] (0:Nat) } : Obj)) ::
    (nat_lit 128, ({ cls := Value.type "code", dict := @Option.none Nat, data := Data.fields #[Value.str (Str.ofString "floordiv") (346:Nat), Value.str (Str.ofString "floordiv") (347:Nat), Value.str (Str.ofString "/claim/cut.py") (348:Nat), Value.int 100 (0:Nat), Value.int 2 (0:Nat), Value.int 0 (0:Nat), Value.int 0 (0:Nat), Value.int 3 (0:Nat), Value.ref (123:Nat), Value.bool true, Value.int 181 (0:Nat), Value.ref (124:Nat), Value.none, Value.ref (125:Nat), Value.ref (126:Nat), Value.ref (127:Nat), Value.int 351 (0:Nat), Value.int 100 (0:Nat), Value.str (Str.ofString "/claim/cut.py") (352:Nat)] } : Obj)) ::
    (nat_lit 129, ({ cls := Value.type "function", dict := @Option.none Nat, data := Data.func { name := Str.ofString "floordiv", qualname := Str.ofString "floordiv", params := ?p11, body := FuncBody.stmts ?b11, scope := ?s11, globals := (3:Nat), closure := (@List.nil (Str × Nat)), defaults := Value.none, kwdefaults := Value.none, pyModule := Value.str (Str.ofString "cpy313.operator") (312:Nat), annotations := @Option.none Nat, code := Value.ref (128:Nat), builtins := (0:Nat) } } : Obj)) ::
    (nat_lit 130, ({ cls := Value.type "tuple", dict := @Option.none Nat, data := Data.seq #[] (0:Nat) } : Obj)) ::
    (nat_lit 132, ({ cls := Value.type "tuple", dict := @Option.none Nat, data := Data.seq #[Value.str (Str.ofString "a") (357:Nat)] (0:Nat) } : Obj)) ::
    (nat_lit 133, ({ cls := Value.type "tuple", dict := @Option.none Nat, data := Data.seq #[] (0:Nat) } : Obj)) ::
    (nat_lit 135, ({ cls := Value.type "code", dict := @Option.none Nat, data := Data.fields #[Value.str (Str.ofString "inv") (354:Nat), Value.str (Str.ofString "inv") (355:Nat), Value.str (Str.ofString "/claim/cut.py") (356:Nat), Value.int 102 (0:Nat), Value.int 1 (0:Nat), Value.int 0 (0:Nat), Value.int 0 (0:Nat), Value.int 3 (0:Nat), Value.ref (130:Nat), Value.bool true, Value.int 181 (0:Nat), Value.ref (131:Nat), Value.none, Value.ref (132:Nat), Value.ref (133:Nat), Value.ref (134:Nat), Value.int 358 (0:Nat), Value.int 102 (0:Nat), Value.str (Str.ofString "/claim/cut.py") (359:Nat)] } : Obj)) ::
    (nat_lit 136, ({ cls := Value.type "function", dict := @Option.none Nat, data := Data.func { name := Str.ofString "inv", qualname := Str.ofString "inv", params := ?p12, body := FuncBody.stmts ?b12, scope := ?s12, globals := (3:Nat), closure := (@List.nil (Str × Nat)), defaults := Value.none, kwdefaults := Value.none, pyModule := Value.str (Str.ofString "cpy313.operator") (312:Nat), annotations := @Option.none Nat, code := Value.ref (135:Nat), builtins := (0:Nat) } } : Obj)) ::
    (nat_lit 137, ({ cls := Value.type "tuple", dict := @Option.none Nat, data := Data.seq #[] (0:Nat) } : Obj)) ::
    (nat_lit 139, ({ cls := Value.type "tuple", dict := @Option.none Nat, data := Data.seq #[Value.str (Str.ofString "a") (364:Nat), Value.str (Str.ofString "b") (365:Nat)] (0:Nat) } : Obj)) ::
    (nat_lit 140, ({ cls := Value.type "tuple", dict := @Option.none Nat, data := Data.seq #[] (0:Nat) } : Obj)) ::
    (nat_lit 142, ({ cls := Value.type "code", dict := @Option.none Nat, data := Data.fields #[Value.str (Str.ofString "lshift") (361:Nat), Value.str (Str.ofString "lshift") (362:Nat), Value.str (Str.ofString "/claim/cut.py") (363:Nat), Value.int 104 (0:Nat), Value.int 2 (0:Nat), Value.int 0 (0:Nat), Value.int 0 (0:Nat), Value.int 3 (0:Nat), Value.ref (137:Nat), Value.bool true, Value.int 181 (0:Nat), Value.ref (138:Nat), Value.none, Value.ref (139:Nat), Value.ref (140:Nat), Value.ref (141:Nat), Value.int 366 (0:Nat), Value.int 104 (0:Nat), Value.str (Str.ofString "/claim/cut.py") (367:Nat)] } : Obj)) ::
    (nat_lit 143, ({ cls := Value.type "function", dict := @Option.none Nat, data := Data.func { name := Str.ofString "lshift", qualname := Str.ofString "lshift", params := ?p13, body := FuncBody.stmts ?b13, scope := ?s13, globals := (3:Nat), closure := (@List.nil (Str × Nat)), defaults := Value.none, kwdefaults := Value.none, pyModule := Value.str (Str.ofString "cpy313.operator") (312:Nat), annotations := @Option.none Nat, code := Value.ref (142:Nat), builtins := (0:Nat) } } : Obj)) ::
    (nat_lit 144, ({ cls := Value.type "tuple", dict := @Option.none Nat, data := Data.seq #[] (0:Nat) } : Obj)) ::
    (nat_lit 146, ({ cls := Value.type "tuple", dict := @Option.none Nat, data := Data.seq #[Value.str (Str.ofString "a") (372:Nat), Value.str (Str.ofString "b") (373:Nat)] (0:Nat) } : Obj)) ::
    (nat_lit 147, ({ cls := Value.type "tuple", dict := @Option.none Nat, data := Data.seq #[] (0:Nat) } : Obj)) ::
    (nat_lit 149, ({ cls := Value.type "code", dict := @Option.none Nat, data := Data.fields #[Value.str (Str.ofString "mod") (369:Nat), Value.str (Str.ofString "mod") (370:Nat), Value.str (Str.ofString "/claim/cut.py") (371:Nat), Value.int 106 (0:Nat), Value.int 2 (0:Nat), Value.int 0 (0:Nat), Value.int 0 (0:Nat), Value.int 3 (0:Nat), Value.ref (144:Nat), Value.bool true, Value.int 181 (0:Nat), Value.ref (145:Nat), Value.none, Value.ref (146:Nat), Value.ref (147:Nat), Value.ref (148:Nat), Value.int 374 (0:Nat), Value.int 106 (0:Nat), Value.str (Str.ofString "/claim/cut.py") (375:Nat)] } : Obj)) ::
    (nat_lit 150, ({ cls := Value.type "function", dict := @Option.none Nat, data := Data.func { name := Str.ofString "mod", qualname := Str.ofString "mod", params := ?p14, body := FuncBody.stmts ?b14, scope := ?s14, globals := (3:Nat), closure := (@List.nil (Str × Nat)), defaults := Value.none, kwdefaults := Value.none, pyModule := Value.str (Str.ofString "cpy313.operator") (312:Nat), annotations := @Option.none Nat, code := Value.ref (149:Nat), builtins := (0:Nat) } } : Obj)) ::
    (nat_lit 151, ({ cls := Value.type "tuple", dict := @Option.none Nat, data := Data.seq #[] (0:Nat) } : Obj)) ::
    (nat_lit 153, ({ cls := Value.type "tuple", dict := @Option.none Nat, data := Data.seq #[Value.str (Str.ofString "a") (380:Nat), Value.str (Str.ofString "b") (381:Nat)] (0:Nat) } : Obj)) ::
    (nat_lit 154, ({ cls := Value.type "tuple", dict := @Option.none Nat, data := Data.seq #[] (0:Nat) } : Obj)) ::
    (nat_lit 156, ({ cls := Value.type "code", dict := @Option.none Nat, data := Data.fields #[Value.str (Str.ofString "mul") (377:Nat), Value.str (Str.ofString "mul") (378:Nat), Value.str (Str.ofString "/claim/cut.py") (379:Nat), Value.int 108 (0:Nat), Value.int 2 (0:Nat), Value.int 0 (0:Nat), Value.int 0 (0:Nat), Value.int 3 (0:Nat), Value.ref (151:Nat), Value.bool true, Value.int 181 (0:Nat), Value.ref (152:Nat), Value.none, Value.ref (153:Nat), Value.ref (154:Nat), Value.ref (155:Nat), Value.int 382 (0:Nat), Value.int 108 (0:Nat), Value.str (Str.ofString "/claim/cut.py") (383:Nat)] } : Obj)) ::
    (nat_lit 157, ({ cls := Value.type "function", dict := @Option.none Nat, data := Data.func { name := Str.ofString "mul", qualname := Str.ofString "mul", params := ?p15, body := FuncBody.stmts ?b15, scope := ?s15, globals := (3:Nat), closure := (@List.nil (Str × Nat)), defaults := Value.none, kwdefaults := Value.none, pyModule := Value.str (Str.ofString "cpy313.operator") (312:Nat), annotations := @Option.none Nat, code := Value.ref (156:Nat), builtins := (0:Nat) } } : Obj)) ::
    (nat_lit 158, ({ cls := Value.type "tuple", dict := @Option.none Nat, data := Data.seq #[] (0:Nat) } : Obj)) ::
    (nat_lit 160, ({ cls := Value.type "tuple", dict := @Option.none Nat, data := Data.seq #[Value.str (Str.ofString "a") (388:Nat)] (0:Nat) } : Obj)) ::
    (nat_lit 161, ({ cls := Value.type "tuple", dict := @Option.none Nat, data := Data.seq #[] (0:Nat) } : Obj)) ::
    (nat_lit 163, ({ cls := Value.type "code", dict := @Option.none Nat, data := Data.fields #[Value.str (Str.ofString "neg") (385:Nat), Value.str (Str.ofString "neg") (386:Nat), Value.str (Str.ofString "/claim/cut.py") (387:Nat), Value.int 110 (0:Nat), Value.int 1 (0:Nat), Value.int 0 (0:Nat), Value.int 0 (0:Nat), Value.int 3 (0:Nat), Value.ref (158:Nat), Value.bool true, Value.int 181 (0:Nat), Value.ref (159:Nat), Value.none, Value.ref (160:Nat), Value.ref (161:Nat), Value.ref (162:Nat), Value.int 389 (0:Nat), Value.int 110 (0:Nat), Value.str (Str.ofString "/claim/cut.py") (390:Nat)] } : Obj)) ::
    (nat_lit 164, ({ cls := Value.type "function", dict := @Option.none Nat, data := Data.func { name := Str.ofString "neg", qualname := Str.ofString "neg", params := ?p16, body := FuncBody.stmts ?b16, scope := ?s16, globals := (3:Nat), closure := (@List.nil (Str × Nat)), defaults := Value.none, kwdefaults := Value.none, pyModule := Value.str (Str.ofString "cpy313.operator") (312:Nat), annotations := @Option.none Nat, code := Value.ref (163:Nat), builtins := (0:Nat) } } : Obj)) ::
    (nat_lit 165, ({ cls := Value.type "tuple", dict := @Option.none Nat, data := Data.seq #[] (0:Nat) } : Obj)) ::
    (nat_lit 167, ({ cls := Value.type "tuple", dict := @Option.none Nat, data := Data.seq #[Value.str (Str.ofString "a") (395:Nat), Value.str (Str.ofString "b") (396:Nat)] (0:Nat) } : Obj)) ::
    (nat_lit 168, ({ cls := Value.type "tuple", dict := @Option.none Nat, data := Data.seq #[] (0:Nat) } : Obj)) ::
    (nat_lit 170, ({ cls := Value.type "code", dict := @Option.none Nat, data := Data.fields #[Value.str (Str.ofString "or_") (392:Nat), Value.str (Str.ofString "or_") (393:Nat), Value.str (Str.ofString "/claim/cut.py") (394:Nat), Value.int 112 (0:Nat), Value.int 2 (0:Nat), Value.int 0 (0:Nat), Value.int 0 (0:Nat), Value.int 3 (0:Nat), Value.ref (165:Nat), Value.bool true, Value.int 181 (0:Nat), Value.ref (166:Nat), Value.none, Value.ref (167:Nat), Value.ref (168:Nat), Value.ref (169:Nat), Value.int 397 (0:Nat), Value.int 112 (0:Nat), Value.str (Str.ofString "/claim/cut.py") (398:Nat)] } : Obj)) ::
    (nat_lit 171, ({ cls := Value.type "function", dict := @Option.none Nat, data := Data.func { name := Str.ofString "or_", qualname := Str.ofString "or_", params := ?p17, body := FuncBody.stmts ?b17, scope := ?s17, globals := (3:Nat), closure := (@List.nil (Str × Nat)), defaults := Value.none, kwdefaults := Value.none, pyModule := Value.str (Str.ofString "cpy313.operator") (312:Nat), annotations := @Option.none Nat, code := Value.ref (170:Nat), builtins := (0:Nat) } } : Obj)) ::
    (nat_lit 172, ({ cls := Value.type "tuple", dict := @Option.none Nat, data := Data.seq #[] (0:Nat) } : Obj)) ::
    (nat_lit 174, ({ cls := Value.type "tuple", dict := @Option.none Nat, data := Data.seq #[Value.str (Str.ofString "a") (403:Nat), Value.str (Str.ofString "b") (404:Nat)] (0:Nat) } : Obj)) ::
    (nat_lit 175, ({ cls := Value.type "tuple", dict := @Option.none Nat, data := Data.seq #[] (0:Nat) } : Obj)) ::
    (nat_lit 177, ({ cls := Value.type "code", dict := @Option.none Nat, data := Data.fields #[Value.str (Str.ofString "contains") (400:Nat), Value.str (Str.ofString "contains") (401:Nat), Value.str (Str.ofString "/claim/cut.py") (402:Nat), Value.int 114 (0:Nat), Value.int 2 (0:Nat), Value.int 0 (0:Nat), Value.int 0 (0:Nat), Value.int 3 (0:Nat), Value.ref (172:Nat), Value.bool true, Value.int 181 (0:Nat), Value.ref (173:Nat), Value.none, Value.ref (174:Nat), Value.ref (175:Nat), Value.ref (176:Nat), Value.int 405 (0:Nat), Value.int 114 (0:Nat), Value.str (Str.ofString "/claim/cut.py") (406:Nat)] } : Obj)) ::
    (nat_lit 178, ({ cls := Value.type "function", dict := @Option.none Nat, data := Data.func { name := Str.ofString "contains", qualname := Str.ofString "contains", params := ?p18, body := FuncBody.stmts ?b18, scope := ?s18, globals := (3:Nat), closure := (@List.nil (Str × Nat)), defaults := Value.none, kwdefaults := Value.none, pyModule := Value.str (Str.ofString "cpy313.operator") (312:Nat), annotations := @Option.none Nat, code := Value.ref (177:Nat), builtins := (0:Nat) } } : Obj)) ::
    (nat_lit 179, ({ cls := Value.type "tuple", dict := @Option.none Nat, data := Data.seq #[] (0:Nat) } : Obj)) ::
    (nat_lit 181, ({ cls := Value.type "tuple", dict := @Option.none Nat, data := Data.seq #[Value.str (Str.ofString "a") (411:Nat), Value.str (Str.ofString "b") (412:Nat), Value.str (Str.ofString "count") (413:Nat), Value.str (Str.ofString "i") (414:Nat)] (0:Nat) } : Obj)) ::
    (nat_lit 182, ({ cls := Value.type "tuple", dict := @Option.none Nat, data := Data.seq #[] (0:Nat) } : Obj)) ::
    (nat_lit 184, ({ cls := Value.type "code", dict := @Option.none Nat, data := Data.fields #[Value.str (Str.ofString "countOf") (408:Nat), Value.str (Str.ofString "countOf") (409:Nat), Value.str (Str.ofString "/claim/cut.py") (410:Nat), Value.int 116 (0:Nat), Value.int 2 (0:Nat), Value.int 0 (0:Nat), Value.int 0 (0:Nat), Value.int 3 (0:Nat), Value.ref (179:Nat), Value.bool true, Value.int 181 (0:Nat), Value.ref (180:Nat), Value.none, Value.ref (181:Nat), Value.ref (182:Nat), Value.ref (183:Nat), Value.int 415 (0:Nat), Value.int 116 (0:Nat), Value.str (Str.ofString "/claim/cut.py") (416:Nat)] } : Obj)) ::
    (nat_lit 185, ({ cls := Value.type "function", dict := @Option.none Nat, data := Data.func { name := Str.ofString "countOf", qualname := Str.ofString "countOf", params := ?p19, body := FuncBody.stmts ?b19, scope := ?s19, globals := (3:Nat), closure := (@List.nil (Str × Nat)), defaults := Value.none, kwdefaults := Value.none, pyModule := Value.str (Str.ofString "cpy313.operator") (312:Nat), annotations := @Option.none Nat, code := Value.ref (184:Nat), builtins := (0:Nat) } } : Obj)) ::
    (nat_lit 186, ({ cls := Value.type "tuple", dict := @Option.none Nat, data := Data.seq #[] (0:Nat) } : Obj)) ::
    (nat_lit 188, ({ cls := Value.type "tuple", dict := @Option.none Nat, data := Data.seq #[Value.str (Str.ofString "a") (421:Nat), Value.str (Str.ofString "b") (422:Nat)] (0:Nat) } : Obj)) ::
    (nat_lit 189, ({ cls := Value.type "tuple", dict := @Option.none Nat, data := Data.seq #[] (0:Nat) } : Obj)) ::
    (nat_lit 191, ({ cls := Value.type "code", dict := @Option.none Nat, data := Data.fields #[Value.str (Str.ofString "delitem") (418:Nat), Value.str (Str.ofString "delitem") (419:Nat), Value.str (Str.ofString "/claim/cut.py") (420:Nat), Value.int 122 (0:Nat), Value.int 2 (0:Nat), Value.int 0 (0:Nat), Value.int 0 (0:Nat), Value.int 3 (0:Nat), Value.ref (186:Nat), Value.bool true, Value.int 181 (0:Nat), Value.ref (187:Nat), Value.none, Value.ref (188:Nat), Value.ref (189:Nat), Value.ref (190:Nat), Value.int 423 (0:Nat), Value.int 122 (0:Nat), Value.str (Str.ofString "/claim/cut.py") (424:Nat)] } : Obj)) ::
    (nat_lit 192, ({ cls := Value.type "function", dict := @Option.none Nat, data := Data.func { name := Str.ofString "delitem", qualname := Str.ofString "delitem", params := ?p20, body := FuncBody.stmts ?b20, scope := ?s20, globals := (3:Nat), closure := (@List.nil (Str × Nat)), defaults := Value.none, kwdefaults := Value.none, pyModule := Value.str (Str.ofString "cpy313.operator") (312:Nat), annotations := @Option.none Nat, code := Value.ref (191:Nat), builtins := (0:Nat) } } : Obj)) ::
    (nat_lit 193, ({ cls := Value.type "tuple", dict := @Option.none Nat, data := Data.seq #[] (0:Nat) } : Obj)) ::
    (nat_lit 195, ({ cls := Value.type "tuple", dict := @Option.none Nat, data := Data.seq #[Value.str (Str.ofString "a") (429:Nat), Value.str (Str.ofString "b") (430:Nat)] (0:Nat) } : Obj)) ::
    (nat_lit 196, ({ cls := Value.type "tuple", dict := @Option.none Nat, data := Data.seq #[] (0:Nat) } : Obj)) ::
    (nat_lit 198, ({ cls := Value.type "code", dict := @Option.none Nat, data := Data.fields #[Value.str (Str.ofString "getitem") (426:Nat), Value.str (Str.ofString "getitem") (427:Nat), Value.str (Str.ofString "/claim/cut.py") (428:Nat), Value.int 124 (0:Nat), Value.int 2 (0:Nat), Value.int 0 (0:Nat), Value.int 0 (0:Nat), Value.int 3 (0:Nat), Value.ref (193:Nat), Value.bool true, Value.int 181 (0:Nat), Value.ref (194:Nat), Value.none, Value.ref (195:Nat), Value.ref (196:Nat), Value.ref (197:Nat), Value.int 431 (0:Nat), Value.int 124 (0:Nat), Value.str (Str.ofString "/claim/cut.py") (432:Nat)] } : Obj)) ::
    (nat_lit 199, ({ cls := Value.type "function", dict := @Option.none Nat, data := Data.func { name := Str.ofString "getitem", qualname := Str.ofString "getitem", params := ?p21, body := FuncBody.stmts ?b21, scope := ?s21, globals := (3:Nat), closure := (@List.nil (Str × Nat)), defaults := Value.none, kwdefaults := Value.none, pyModule := Value.str (Str.ofString "cpy313.operator") (312:Nat), annotations := @Option.none Nat, code := Value.ref (198:Nat), builtins := (0:Nat) } } : Obj)) ::
    (nat_lit 200, ({ cls := Value.type "tuple", dict := @Option.none Nat, data := Data.seq #[] (0:Nat) } : Obj)) ::
    (nat_lit 202, ({ cls := Value.type "tuple", dict := @Option.none Nat, data := Data.seq #[Value.str (Str.ofString "script") (439:Nat), Value.str (Str.ofString "leads") (440:Nat), Value.str (Str.ofString "k") (441:Nat), Value.str (Str.ofString "number") (442:Nat)] (0:Nat) } : Obj)) ::
    (nat_lit 203, ({ cls := Value.type "tuple", dict := @Option.none Nat, data := Data.seq #[] (0:Nat) } : Obj)) ::
    (nat_lit 205, ({ cls := Value.type "code", dict := @Option.none Nat, data := Data.fields #[Value.str (Str.ofString "_law_leads") (436:Nat), Value.str (Str.ofString "_law_leads") (437:Nat), Value.str (Str.ofString "/claim/cut.py") (438:Nat), Value.int 127 (0:Nat), Value.int 1 (0:Nat), Value.int 0 (0:Nat), Value.int 0 (0:Nat), Value.int 3 (0:Nat), Value.ref (200:Nat), Value.bool true, Value.int 181 (0:Nat), Value.ref (201:Nat), Value.none, Value.ref (202:Nat), Value.ref (203:Nat), Value.ref (204:Nat), Value.int 443 (0:Nat), Value.int 127 (0:Nat), Value.str (Str.ofString "/claim/cut.py") (444:Nat)] } : Obj)) ::
    (nat_lit 206, ({ cls := Value.type "function", dict := @Option.none Nat, data := Data.func { name := Str.ofString "_law_leads", qualname := Str.ofString "_law_leads", params := ?p23, body := FuncBody.stmts ?b23, scope := ?s23, globals := (3:Nat), closure := (@List.nil (Str × Nat)), defaults := Value.none, kwdefaults := Value.none, pyModule := Value.str (Str.ofString "law_sw0062_01") (434:Nat), annotations := @Option.none Nat, code := Value.ref (205:Nat), builtins := (0:Nat) } } : Obj)) ::
    (nat_lit 207, ({ cls := Value.type "tuple", dict := @Option.none Nat, data := Data.seq #[] (0:Nat) } : Obj)) ::
    (nat_lit 210, ({ cls := Value.type "code", dict := @Option.none Nat, data := Data.fields #[Value.str (Str.ofString "_law_hung") (446:Nat), Value.str (Str.ofString "_law_hung") (447:Nat), Value.str (Str.ofString "/claim/cut.py") (448:Nat), Value.int 133 (0:Nat), Value.int 1 (0:Nat), Value.int 0 (0:Nat), Value.int 0 (0:Nat), Value.int 3 (0:Nat), Value.ref (207:Nat), Value.bool true, Value.int 181 (0:Nat), Value.ref (208:Nat), Value.none, Value.none, Value.none, Value.ref (209:Nat), Value.int 449 (0:Nat), Value.int 133 (0:Nat), Value.str (Str.ofString "/claim/cut.py") (450:Nat)] } : Obj)) ::
    (nat_lit 211, ({ cls := Value.type "function", dict := @Option.none Nat, data := Data.func { name := Str.ofString "_law_hung", qualname := Str.ofString "_law_hung", params := ?p24, body := FuncBody.stmts ?b24, scope := ?s24, globals := (3:Nat), closure := (@List.nil (Str × Nat)), defaults := Value.none, kwdefaults := Value.none, pyModule := Value.str (Str.ofString "law_sw0062_01") (434:Nat), annotations := @Option.none Nat, code := Value.ref (210:Nat), builtins := (0:Nat) } } : Obj)) ::
    (nat_lit 212, ({ cls := Value.type "tuple", dict := @Option.none Nat, data := Data.seq #[] (0:Nat) } : Obj)) ::
    (nat_lit 214, ({ cls := Value.type "tuple", dict := @Option.none Nat, data := Data.seq #[Value.str (Str.ofString "paths") (455:Nat), Value.str (Str.ofString "lines") (456:Nat), Value.str (Str.ofString "cuts") (457:Nat), Value.str (Str.ofString "k") (458:Nat), Value.str (Str.ofString "gone") (459:Nat), Value.str (Str.ofString "m") (460:Nat)] (0:Nat) } : Obj)) ::
    (nat_lit 215, ({ cls := Value.type "tuple", dict := @Option.none Nat, data := Data.seq #[] (0:Nat) } : Obj)) ::
    (nat_lit 217, ({ cls := Value.type "code", dict := @Option.none Nat, data := Data.fields #[Value.str (Str.ofString "_law_cuts") (452:Nat), Value.str (Str.ofString "_law_cuts") (453:Nat), Value.str (Str.ofString "/claim/cut.py") (454:Nat), Value.int 148 (0:Nat), Value.int 2 (0:Nat), Value.int 0 (0:Nat), Value.int 0 (0:Nat), Value.int 3 (0:Nat), Value.ref (212:Nat), Value.bool true, Value.int 181 (0:Nat), Value.ref (213:Nat), Value.none, Value.ref (214:Nat), Value.ref (215:Nat), Value.ref (216:Nat), Value.int 461 (0:Nat), Value.int 148 (0:Nat), Value.str (Str.ofString "/claim/cut.py") (462:Nat)] } : Obj)) ::
    (nat_lit 218, ({ cls := Value.type "function", dict := @Option.none Nat, data := Data.func { name := Str.ofString "_law_cuts", qualname := Str.ofString "_law_cuts", params := ?p25, body := FuncBody.stmts ?b25, scope := ?s25, globals := (3:Nat), closure := (@List.nil (Str × Nat)), defaults := Value.none, kwdefaults := Value.none, pyModule := Value.str (Str.ofString "law_sw0062_01") (434:Nat), annotations := @Option.none Nat, code := Value.ref (217:Nat), builtins := (0:Nat) } } : Obj)) ::
    (nat_lit 219, ({ cls := Value.type "tuple", dict := @Option.none Nat, data := Data.seq #[] (0:Nat) } : Obj)) ::
    (nat_lit 221, ({ cls := Value.type "tuple", dict := @Option.none Nat, data := Data.seq #[Value.str (Str.ofString "under") (467:Nat), Value.str (Str.ofString "over") (468:Nat), Value.str (Str.ofString "here") (469:Nat), Value.str (Str.ofString "step") (470:Nat), Value.str (Str.ofString "last") (471:Nat), Value.str (Str.ofString "turn") (472:Nat), Value.str (Str.ofString "way") (473:Nat)] (0:Nat) } : Obj)) ::
    (nat_lit 222, ({ cls := Value.type "tuple", dict := @Option.none Nat, data := Data.seq #[] (0:Nat) } : Obj)) ::
    (nat_lit 224, ({ cls := Value.type "code", dict := @Option.none Nat, data := Data.fields #[Value.str (Str.ofString "_law_simplest") (464:Nat), Value.str (Str.ofString "_law_simplest") (465:Nat), Value.str (Str.ofString "/claim/cut.py") (466:Nat), Value.int 157 (0:Nat), Value.int 2 (0:Nat), Value.int 0 (0:Nat), Value.int 0 (0:Nat), Value.int 3 (0:Nat), Value.ref (219:Nat), Value.bool true, Value.int 181 (0:Nat), Value.ref (220:Nat), Value.none, Value.ref (221:Nat), Value.ref (222:Nat), Value.ref (223:Nat), Value.int 474 (0:Nat), Value.int 157 (0:Nat), Value.str (Str.ofString "/claim/cut.py") (475:Nat)] } : Obj)) ::
    (nat_lit 225, ({ cls := Value.type "function", dict := @Option.none Nat, data := Data.func { name := Str.ofString "_law_simplest", qualname := Str.ofString "_law_simplest", params := ?p26, body := FuncBody.stmts ?b26, scope := ?s26, globals := (3:Nat), closure := (@List.nil (Str × Nat)), defaults := Value.none, kwdefaults := Value.none, pyModule := Value.str (Str.ofString "law_sw0062_01") (434:Nat), annotations := @Option.none Nat, code := Value.ref (224:Nat), builtins := (0:Nat) } } : Obj)) ::
    (nat_lit 226, ({ cls := Value.type "tuple", dict := @Option.none Nat, data := Data.seq #[] (0:Nat) } : Obj)) ::
    (nat_lit 229, ({ cls := Value.type "code", dict := @Option.none Nat, data := Data.fields #[Value.str (Str.ofString "_law_played") (477:Nat), Value.str (Str.ofString "_law_played") (478:Nat), Value.str (Str.ofString "/claim/cut.py") (479:Nat), Value.int 173 (0:Nat), Value.int 1 (0:Nat), Value.int 0 (0:Nat), Value.int 0 (0:Nat), Value.int 3 (0:Nat), Value.ref (226:Nat), Value.bool true, Value.int 181 (0:Nat), Value.ref (227:Nat), Value.none, Value.none, Value.none, Value.ref (228:Nat), Value.int 480 (0:Nat), Value.int 173 (0:Nat), Value.str (Str.ofString "/claim/cut.py") (481:Nat)] } : Obj)) ::
    (nat_lit 230, ({ cls := Value.type "function", dict := @Option.none Nat, data := Data.func { name := Str.ofString "_law_played", qualname := Str.ofString "_law_played", params := ?p27, body := FuncBody.stmts ?b27, scope := ?s27, globals := (3:Nat), closure := (@List.nil (Str × Nat)), defaults := Value.none, kwdefaults := Value.none, pyModule := Value.str (Str.ofString "law_sw0062_01") (434:Nat), annotations := @Option.none Nat, code := Value.ref (229:Nat), builtins := (0:Nat) } } : Obj)) ::
    (nat_lit 231, ({ cls := Value.type "tuple", dict := @Option.none Nat, data := Data.seq #[] (0:Nat) } : Obj)) ::
    (nat_lit 234, ({ cls := Value.type "code", dict := @Option.none Nat, data := Data.fields #[Value.str (Str.ofString "_law_columns") (483:Nat), Value.str (Str.ofString "_law_columns") (484:Nat), Value.str (Str.ofString "/claim/cut.py") (485:Nat), Value.int 198 (0:Nat), Value.int 1 (0:Nat), Value.int 0 (0:Nat), Value.int 0 (0:Nat), Value.int 3 (0:Nat), Value.ref (231:Nat), Value.bool true, Value.int 181 (0:Nat), Value.ref (232:Nat), Value.none, Value.none, Value.none, Value.ref (233:Nat), Value.int 486 (0:Nat), Value.int 198 (0:Nat), Value.str (Str.ofString "/claim/cut.py") (487:Nat)] } : Obj)) ::
    (nat_lit 235, ({ cls := Value.type "function", dict := @Option.none Nat, data := Data.func { name := Str.ofString "_law_columns", qualname := Str.ofString "_law_columns", params := ?p28, body := FuncBody.stmts ?b28, scope := ?s28, globals := (3:Nat), closure := (@List.nil (Str × Nat)), defaults := Value.none, kwdefaults := Value.none, pyModule := Value.str (Str.ofString "law_sw0062_01") (434:Nat), annotations := @Option.none Nat, code := Value.ref (234:Nat), builtins := (0:Nat) } } : Obj)) ::
    (nat_lit 236, ({ cls := Value.type "tuple", dict := @Option.none Nat, data := Data.seq #[] (0:Nat) } : Obj)) ::
    (nat_lit 239, ({ cls := Value.type "code", dict := @Option.none Nat, data := Data.fields #[Value.str (Str.ofString "_law_owners") (489:Nat), Value.str (Str.ofString "_law_owners") (490:Nat), Value.str (Str.ofString "/claim/cut.py") (491:Nat), Value.int 203 (0:Nat), Value.int 1 (0:Nat), Value.int 0 (0:Nat), Value.int 0 (0:Nat), Value.int 3 (0:Nat), Value.ref (236:Nat), Value.bool true, Value.int 181 (0:Nat), Value.ref (237:Nat), Value.none, Value.none, Value.none, Value.ref (238:Nat), Value.int 492 (0:Nat), Value.int 203 (0:Nat), Value.str (Str.ofString "/claim/cut.py") (493:Nat)] } : Obj)) ::
    (nat_lit 240, ({ cls := Value.type "function", dict := @Option.none Nat, data := Data.func { name := Str.ofString "_law_owners", qualname := Str.ofString "_law_owners", params := ?p29, body := FuncBody.stmts ?b29, scope := ?s29, globals := (3:Nat), closure := (@List.nil (Str × Nat)), defaults := Value.none, kwdefaults := Value.none, pyModule := Value.str (Str.ofString "law_sw0062_01") (434:Nat), annotations := @Option.none Nat, code := Value.ref (239:Nat), builtins := (0:Nat) } } : Obj)) ::
    (nat_lit 241, ({ cls := Value.type "tuple", dict := @Option.none Nat, data := Data.seq #[] (0:Nat) } : Obj)) ::
    (nat_lit 244, ({ cls := Value.type "code", dict := @Option.none Nat, data := Data.fields #[Value.str (Str.ofString "_law_due") (495:Nat), Value.str (Str.ofString "_law_due") (496:Nat), Value.str (Str.ofString "/claim/cut.py") (497:Nat), Value.int 212 (0:Nat), Value.int 2 (0:Nat), Value.int 0 (0:Nat), Value.int 0 (0:Nat), Value.int 3 (0:Nat), Value.ref (241:Nat), Value.bool true, Value.int 181 (0:Nat), Value.ref (242:Nat), Value.none, Value.none, Value.none, Value.ref (243:Nat), Value.int 498 (0:Nat), Value.int 212 (0:Nat), Value.str (Str.ofString "/claim/cut.py") (499:Nat)] } : Obj)) ::
    (nat_lit 245, ({ cls := Value.type "function", dict := @Option.none Nat, data := Data.func { name := Str.ofString "_law_due", qualname := Str.ofString "_law_due", params := ?p30, body := FuncBody.stmts ?b30, scope := ?s30, globals := (3:Nat), closure := (@List.nil (Str × Nat)), defaults := Value.none, kwdefaults := Value.none, pyModule := Value.str (Str.ofString "law_sw0062_01") (434:Nat), annotations := @Option.none Nat, code := Value.ref (244:Nat), builtins := (0:Nat) } } : Obj)) ::
    (nat_lit 246, ({ cls := Value.type "tuple", dict := @Option.none Nat, data := Data.seq #[] (0:Nat) } : Obj)) ::
    (nat_lit 249, ({ cls := Value.type "code", dict := @Option.none Nat, data := Data.fields #[Value.str (Str.ofString "law") (501:Nat), Value.str (Str.ofString "law") (502:Nat), Value.str (Str.ofString "/claim/cut.py") (503:Nat), Value.int 228 (0:Nat), Value.int 1 (0:Nat), Value.int 0 (0:Nat), Value.int 0 (0:Nat), Value.int 3 (0:Nat), Value.ref (246:Nat), Value.bool true, Value.int 181 (0:Nat), Value.ref (247:Nat), Value.none, Value.none, Value.none, Value.ref (248:Nat), Value.int 504 (0:Nat), Value.int 228 (0:Nat), Value.str (Str.ofString "/claim/cut.py") (505:Nat)] } : Obj)) ::
    (nat_lit 250, ({ cls := Value.type "function", dict := @Option.none Nat, data := Data.func { name := Str.ofString "law", qualname := Str.ofString "law", params := ?p31, body := FuncBody.stmts ?b31, scope := ?s31, globals := (3:Nat), closure := (@List.nil (Str × Nat)), defaults := Value.none, kwdefaults := Value.none, pyModule := Value.str (Str.ofString "law_sw0062_01") (434:Nat), annotations := @Option.none Nat, code := Value.ref (249:Nat), builtins := (0:Nat) } } : Obj)) ::
    [] : List (Nat × Obj))
end Mine

namespace Mine
noncomputable def HeadAs : List Addr := 2 :: 3 :: 15 :: 17 :: 18 :: 20 :: 21 :: 32 :: 34 :: 35 :: 37 :: 38 :: 39 :: 41 :: 42 :: 44 :: 45 :: 46 :: 48 :: 49 :: 51 :: 52 :: 53 :: 55 :: 56 :: 58 :: 59 :: 60 :: 62 :: 63 :: 65 :: 66 :: 67 :: 69 :: 70 :: 72 :: 73 :: 74 :: 76 :: 77 :: 79 :: 80 :: 81 :: 82 :: 83 :: 84 :: 85 :: 88 :: 90 :: 91 :: 93 :: 94 :: 95 :: 97 :: 98 :: 100 :: 101 :: 102 :: 104 :: 105 :: 107 :: 108 :: 109 :: 111 :: 112 :: 114 :: 115 :: 116 :: 118 :: 119 :: 121 :: 122 :: 123 :: 125 :: 126 :: 128 :: 129 :: 130 :: 132 :: 133 :: 135 :: 136 :: 137 :: 139 :: 140 :: 142 :: 143 :: 144 :: 146 :: 147 :: 149 :: 150 :: 151 :: 153 :: 154 :: 156 :: 157 :: 158 :: 160 :: 161 :: 163 :: 164 :: 165 :: 167 :: 168 :: 170 :: 171 :: 172 :: 174 :: 175 :: 177 :: 178 :: 179 :: 181 :: 182 :: 184 :: 185 :: 186 :: 188 :: 189 :: 191 :: 192 :: 193 :: 195 :: 196 :: 198 :: 199 :: 200 :: 202 :: 203 :: 205 :: 206 :: 207 :: 210 :: 211 :: 212 :: 214 :: 215 :: 217 :: 218 :: 219 :: 221 :: 222 :: 224 :: 225 :: 226 :: 229 :: 230 :: 231 :: 234 :: 235 :: 236 :: 239 :: 240 :: 241 :: 244 :: 245 :: 246 :: 249 :: 250 :: []
theorem headE (P : Params) : HeadAs = (HeapK P).map (·.1) := by kernel_rfl
/-- the head in two halves, behind the library's own opening -/
theorem left_boot {p q : Program} {loose : List Str} {Xt : Shared → Bool} {α : Type} {Yf : Shared → α} {Ya : World → α} {N : Nat} {g0 : Bool} (row : String) (e : opening p = plainProg p.main.scope.names) (hN : Nat.ble 600 N = true) (f : ∀ s, fenceModules? p s = some s)
    (h : ∀ (b : Bool) (w : World) (os : OsState), (topFrom treeTable p (w.withFollow row b) N ⟨boot_heap (w.withFollow row b).params, Array.mk [], boot_drawn, boot_toks, os⟩).map (fun s => (openSeen q loose (importedModules p.main.body) Xt g0 s, Yf s)) = some (openGood q loose, Ya (w.withFollow row b))) : LeftO p q loose Xt Yf Ya N g0 := by
  have key : ∀ (b : Bool) (w : World), (openEnds treeTable p (w.withFollow row b) N).map (fun s => (openSeen q loose (importedModules p.main.body) Xt g0 s, Yf s)) = some (openGood q loose, Ya (w.withFollow row b)) := fun b w => by
    obtain ⟨⟨h₀, gs, d, k, os⟩, e1, e2⟩ := Option.map_eq_some_iff.mp (boot_open e hN f (w.withFollow row b))
    obtain ⟨rfl, rfl, rfl, rfl⟩ : h₀ = boot_heap (w.withFollow row b).params ∧ gs = Array.mk [] ∧ d = boot_drawn ∧ k = boot_toks := by simpa using e2
    unfold openEnds
    rw [e1]
    exact h b w os
  exact fun w => byRow2 row (P := fun w => (openEnds treeTable p w N).map (fun s => (openSeen q loose (importedModules p.main.body) Xt g0 s, Yf s)) = some (openGood q loose, Ya w)) (key false) (key true) w
theorem headPlain : opening PySem.Challenge.rw_sw0062_01.row.toRowW.prog = plainProg PySem.Challenge.rw_sw0062_01.row.toRowW.prog.main.scope.names := by kernel_rfl
theorem headFence (s : Shared) : fenceModules? PySem.Challenge.rw_sw0062_01.row.toRowW.prog s = some s := by kernel_rfl
theorem headLf (w : World) (os : OsState) : (topFrom treeTable PySem.Challenge.rw_sw0062_01.row.toRowW.prog (w.withFollow "special-get-raises" false) 2740 ⟨boot_heap (w.withFollow "special-get-raises" false).params, Array.mk [], boot_drawn, boot_toks, os⟩).map (fun s => (openSeen ViewQ [Str.ofString "Whitespace"] (importedModules PySem.Challenge.rw_sw0062_01.row.toRowW.prog.main.body) (fun s => xlAt ViewQ [] s && recOk (RowW.records PySem.Challenge.rw_sw0062_01.row.toRowW) s) true s, (kHook HeapK HeadAs headE).obs s)) = some (openGood ViewQ [Str.ofString "Whitespace"], (kHook HeapK HeadAs headE).val (w.withFollow "special-get-raises" false)) := by kernel_rfl
theorem headLt (w : World) (os : OsState) : (topFrom treeTable PySem.Challenge.rw_sw0062_01.row.toRowW.prog (w.withFollow "special-get-raises" true) 2740 ⟨boot_heap (w.withFollow "special-get-raises" true).params, Array.mk [], boot_drawn, boot_toks, os⟩).map (fun s => (openSeen ViewQ [Str.ofString "Whitespace"] (importedModules PySem.Challenge.rw_sw0062_01.row.toRowW.prog.main.body) (fun s => xlAt ViewQ [] s && recOk (RowW.records PySem.Challenge.rw_sw0062_01.row.toRowW) s) true s, (kHook HeapK HeadAs headE).obs s)) = some (openGood ViewQ [Str.ofString "Whitespace"], (kHook HeapK HeadAs headE).val (w.withFollow "special-get-raises" true)) := by kernel_rfl
theorem headL : LeftO PySem.Challenge.rw_sw0062_01.row.toRowW.prog ViewQ [Str.ofString "Whitespace"]
    (fun s => xlAt ViewQ [] s && recOk (RowW.records PySem.Challenge.rw_sw0062_01.row.toRowW) s) (kHook HeapK HeadAs headE).obs (kHook HeapK HeadAs headE).val 2740 :=
  left_boot "special-get-raises" headPlain (by decide) headFence fun b w os => by
    cases b
    · exact headLf w os
    · exact headLt w os
end Mine

namespace Mine
noncomputable def LawD : DefRec := by
  refine (?f : (PySem.Challenge.pw_sw0062_01.main.body.getLast? = some (Stmt.FunctionDef ?n ?p ?b ?d ?r ?t ?s ?u ?v ?w)) → DefRec) ?h
  case h => rfl
  case f => exact fun _ => ⟨?n, ?p, ?b, ?s, ?w⟩
theorem hd_said : PySem.Challenge.rw_sw0062_01.wellSaid = true := by decide +kernel
theorem headW : PySem.Challenge.rw_sw0062_01.row.toRowW.promised := by w_witness2
theorem headT (walk : WalkO ViewQ [Str.ofString "Whitespace"] (XL ViewQ []) (kHook HeapK HeadAs headE).says PySem.Challenge.rw_sw0062_01.row.toRowW LawD [] (fun f vs => PySem.call f vs)) : PySem.Challenge.rw_sw0062_01.Holds := by
  refine holds_law hd_said fun said => ?_
  exact holds_open (r := PySem.Challenge.rw_sw0062_01.row) (q := ViewQ) (loose := [Str.ofString "Whitespace"]) (Xt := fun s => xlAt ViewQ [] s && recOk (RowW.records PySem.Challenge.rw_sw0062_01.row.toRowW) s) (XP := XL ViewQ [])
    (Yf := Hook.obs (kHook HeapK HeadAs headE)) (Ya := Hook.val (kHook HeapK HeadAs headE)) (YP := Hook.says (kHook HeapK HeadAs headE)) (N := 2740) headL (Hook.of (kHook HeapK HeadAs headE)) (Hook.keeps (kHook HeapK HeadAs headE)) (fun s e => xl_of s (Bool.and_eq_true_iff.mp e).1) XL.keeps
    (by rfl) (by rfl) (by rfl) (fun s e => recFacts_of (Bool.and_eq_true_iff.mp e).2) (by rfl) said (by decide +kernel) ⟨rfl, rfl, rfl, rfl, rfl, by decide +kernel⟩ headW walk
end Mine

example : (fun (_ : OpenLaw) (_ : Params → Frag) => True) PySem.Challenge.rw_sw0062_01 Mine.HeapK := by k_fill; trivial
namespace Mine

/-! the known part of the heap, the locals by position -/
abbrev PH := Addr → Option Obj
def PH.set (H : PH) (a : Addr) (o : Obj) : PH := fun b => if b = a then some o else H b
def PH.le (H H' : PH) : Prop := ∀ a o, H a = some o → H' a = some o
def look : List Str → List (Option Value) → Str → Option Value
  | x :: ns, v :: vs, y => if y = x then v else look ns vs y
  | _, _, _ => none
structure Sg where
  vs : List (Option Value)
  H : PH
structure Cx where
  w : World
  A : Around
  base : Heap
  L : Addr
  ns : List Str
structure St (C : Cx) (σ : Sg) (h : Heap) : Prop where
  fr : Fr C.base C.L h (look C.ns σ.vs)
  hp : ∀ a o, σ.H a = some o → h.get? a = some o ∧ a ≠ C.L ∧ C.base.get? a = none

/-- what stands outside the known part is left as it was; the known part grows by new objects alone -/
structure Fram (C : Cx) (σ : Sg) (h : Heap) (σ' : Sg) (h' : Heap) : Prop where
  dom : ∀ b o, σ'.H b = some o → σ.H b ≠ none ∨ h.get? b = none
  kept : ∀ b o, h.get? b = some o → σ.H b = none → b ≠ C.L → h'.get? b = some o
theorem Fram.refl {C : Cx} {σ : Sg} {h : Heap} : Fram C σ h σ h := ⟨fun b o e => .inl (by rw [e]; exact Option.some_ne_none _), fun _ _ e _ _ => e⟩
theorem Fram.trans {C : Cx} {σ σ₁ σ₂ : Sg} {h h₁ h₂ : Heap} (s₁ : St C σ₁ h₁) (a : Fram C σ h σ₁ h₁) (b : Fram C σ₁ h₁ σ₂ h₂) : Fram C σ h σ₂ h₂ := by
  have n1 : ∀ x o, h.get? x = some o → σ.H x = none → σ₁.H x = none := fun x o e n => by
    cases q : σ₁.H x with
    | none => rfl
    | some o' =>
      rcases a.dom x o' q with h1 | h1
      · exact absurd n h1
      · rw [e] at h1; cases h1
  refine ⟨fun x o e => ?_, fun x o e n l => b.kept x o (a.kept x o e n l) (n1 x o e n) l⟩
  rcases b.dom x o e with h1 | h1
  · cases q : σ₁.H x with
    | none => exact absurd q h1
    | some o' => exact a.dom x o' q
  · cases q : σ.H x with
    | some o' => exact .inl (Option.some_ne_none _)
    | none =>
      refine .inr ?_
      cases q2 : h.get? x with
      | none => rfl
      | some o' =>
        by_cases l : x = C.L
        · subst l
          obtain ⟨oL, _, _, hL, _⟩ := s₁.fr.ns
          rw [h1] at hL; cases hL
        · rw [a.kept x o' q2 q l] at h1; cases h1

def J {α : Type} (C : Cx) (t : Sem α) (σ : Sg) (R : α → Sg → Prop) : Prop :=
  ∀ s : Shared, St C σ s.heap → wpAny (model PySem.Challenge.pw_sw0062_01 C.w) C.A t (fun a s' => ∃ σ' h' tk', s' = { s with heap := h', toks := tk' } ∧ St C σ' h' ∧ Fram C σ s.heap σ' h' ∧ R a σ') (fun _ _ => False) s

section
variable {α β : Type} {C : Cx} {σ : Sg} {R : α → Sg → Prop}

theorem j_use {t : Sem α} (h : J C t σ R) {s : Shared} (hs : St C σ s.heap) {Q : α → Shared → Prop} {E : Value → Shared → Prop}
    (k : ∀ a σ' h' tk', St C σ' h' → Fram C σ s.heap σ' h' → R a σ' → Q a { s with heap := h', toks := tk' }) : wpAny (model PySem.Challenge.pw_sw0062_01 C.w) C.A t Q E s :=
  wpAny_mono (h s hs) (fun a s' ⟨σ', h', tk', e, hs', hf, r⟩ => e ▸ k a σ' h' tk' hs' hf r) (fun _ _ x => x.elim)

theorem j_mk {t : Sem α} (h : ∀ (s : Shared) (Q : α → Shared → Prop), St C σ s.heap → (∀ a σ' h' tk', St C σ' h' → Fram C σ s.heap σ' h' → R a σ' → Q a { s with heap := h', toks := tk' }) →
    wpAny (model PySem.Challenge.pw_sw0062_01 C.w) C.A t Q (fun _ _ => False) s) : J C t σ R :=
  fun s hs => h s _ hs (fun a σ' h' tk' hs' hf r => ⟨σ', h', tk', rfl, hs', hf, r⟩)

theorem j_mono {t : Sem α} {R' : α → Sg → Prop} (h : J C t σ R) (k : ∀ a σ', R a σ' → R' a σ') : J C t σ R' :=
  j_mk fun _ _ hs q => j_use h hs fun a σ' h' tk' hs' hf r => q a σ' h' tk' hs' hf (k a σ' r)

theorem j_ret {a : α} (h : R a σ) : J C (pure a : Sem α) σ R := j_mk fun s _ hs q => wpAny_pure (q a σ s.heap s.toks hs .refl h)

theorem j_bind {m : Sem β} {f : β → Sem α} (h : J C m σ (fun b σ' => J C (f b) σ' R)) : J C (m >>= f) σ R :=
  j_mk fun s _ hs q => wpAny_bind (j_use h hs fun b σ' h' tk' hs' hf r => j_use r (s := { s with heap := h', toks := tk' }) hs' fun a σ'' h'' tk'' hs'' hf' r' => q a σ'' h'' tk'' hs'' (hf.trans hs' hf') r')

theorem j_holding {vs : List Value} {t : Sem α} (h : J C t σ R) : J C (PySem.holding vs t) σ R :=
  j_mk fun _ _ hs q => wpAny_holding (j_use h hs q)
theorem j_standAt {pos : Pos} {R : Unit → Sg → Prop} (h : R () σ) : J C (standAt pos) σ R := j_mk fun s _ hs q => wpAny_standAt (q () σ s.heap s.toks hs .refl h)
theorem j_point {R : Unit → Sg → Prop} (h : R () σ) : J C point σ R := j_mk fun s _ hs q => wpAny_point (q () σ s.heap s.toks hs .refl h)
theorem j_rule {tag : String} {R : Unit → Sg → Prop} (h : R () σ) : J C (rule tag) σ R := j_mk fun s _ hs q => wpAny_rule (q () σ s.heap s.toks hs .refl h)
theorem j_mkInt {i : Int} {R : Value → Sg → Prop} (h : ∀ t, R (.int i t) σ) : J C (mkInt i) σ R := j_mk fun s _ hs q => wpAny_mkInt (q _ σ s.heap (s.toks + 1) hs .refl (h _))
theorem j_mkStr {x : Str} {R : Value → Sg → Prop} (hx : x.length ≤ sizeLine) (h : ∀ t, R (.str x t) σ) : J C (mkStr x) σ R := j_mk fun s _ hs q => wpAny_mkStr (q _ σ s.heap (s.toks + 1) hs .refl (h _)) hx
theorem j_mkText {x : Str} {R : Value → Sg → Prop} (h : ∀ t, R (.str x t) σ) : J C (mkText x) σ R := j_mk fun s _ hs q => wpAny_mkText (q _ σ s.heap (s.toks + 1) hs .refl (h _))
theorem j_of_eq {m : Sem α} {a : α} (e : m = pure a) (h : R a σ) : J C m σ R := e ▸ j_ret h
theorem j_ite {c : Prop} [Decidable c] {a b : Sem α} (ha : c → J C a σ R) (hb : ¬ c → J C b σ R) : J C (if c then a else b) σ R := by
  split
  · exact ha ‹_›
  · exact hb ‹_›
theorem j_cong {t t' : Sem α} (h : J C t' σ R) (e : t = t') : J C t σ R := e ▸ h

/-- from a fact about the machine's own rule: nothing of the heap is touched -/
theorem j_same {t : Sem α} {a : α} (hr : R a σ) (h : ∀ (s : Shared) (Q : α → Shared → Prop), St C σ s.heap → (∀ tk', Q a { s with toks := tk' }) → wpAny (model PySem.Challenge.pw_sw0062_01 C.w) C.A t Q (fun _ _ => False) s) : J C t σ R :=
  j_mk fun s Q hs q => h s Q hs fun tk' => q a σ s.heap tk' hs .refl hr

/-! release, operate -/
theorem j_releaseGo {keep : List Value} {R : Unit → Sg → Prop} (h : R () σ) : ∀ l, J C (release.go keep l) σ R
  | [] => j_ret h
  | [_] => j_ret h
  | a :: b :: r => by
    unfold release.go
    exact j_bind (j_holding (j_point (j_releaseGo h (b :: r))))
theorem j_release {vs keep : List Value} {R : Unit → Sg → Prop} (h : R () σ) : J C (release vs keep) σ R := j_releaseGo h _
theorem j_operate {vs : List Value} {m : Sem Value} {R : Value → Sg → Prop} (h : J C m σ R) : J C (operate vs m) σ R :=
  j_bind (j_holding (j_mono h fun _ _ r => j_bind (j_release (j_ret r))))
end

/-! the known part -/
theorem PH.le_refl (H : PH) : H.le H := fun _ _ e => e
theorem PH.le_trans {H H' H'' : PH} (a : H.le H') (b : H'.le H'') : H.le H'' := fun x o e => b x o (a x o e)
theorem PH.le_set {H : PH} {a : Addr} {o : Obj} (n : H a = none) : H.le (H.set a o) := fun b ob e => by
  unfold PH.set
  by_cases q : b = a
  · subst q; rw [n] at e; cases e
  · rw [if_neg q]; exact e
theorem PH.set_self {H : PH} {a : Addr} {o : Obj} : (H.set a o) a = some o := by unfold PH.set; rw [if_pos rfl]
theorem PH.set_ne {H : PH} {a b : Addr} {o : Obj} (n : b ≠ a) : (H.set a o) b = H b := by unfold PH.set; rw [if_neg n]

section
variable {C : Cx} {σ : Sg} {h h' : Heap}
theorem St.newAt (hs : St C σ h) : σ.H h.objs.size = none := by
  cases e : σ.H h.objs.size with
  | none => rfl
  | some o => exact absurd (Heap.lt_size (hs.hp _ _ e).1) (Nat.lt_irrefl _)
theorem St.Llt (hs : St C σ h) : C.L < h.objs.size := hs.fr.ns.lt
theorem St.push (hs : St C σ h) (o : Obj) (hf : o.isFreed = false := by rfl) : St C ⟨σ.vs, σ.H.set h.objs.size o⟩ (h.push o) := by
  refine ⟨hs.fr.push o, fun a ob e => ?_⟩
  by_cases q : a = h.objs.size
  · subst q
    change (σ.H.set _ _) _ = _ at e
    rw [PH.set_self] at e; cases e
    refine ⟨Heap.get?_push_size _ hf, Nat.ne_of_gt hs.Llt, ?_⟩
    cases hq : C.base.get? h.objs.size with
    | none => rfl
    | some o' => exact absurd (Heap.lt_size (hs.fr.keep _ _ hq)) (Nat.lt_irrefl _)
  · change (σ.H.set _ _) _ = _ at e
    rw [PH.set_ne q] at e
    exact ⟨Heap.get?_push_of_some _ (hs.hp a ob e).1, (hs.hp a ob e).2⟩
theorem St.keeps (hs : St C σ h) (hk : ∀ b o, h.get? b = some o → h'.get? b = some o) : St C σ h' :=
  ⟨⟨hs.fr.ns.keeps hk, fun b o e => hk b o (hs.fr.keep b o e), hs.fr.above⟩, fun a o e => ⟨hk a o (hs.hp a o e).1, (hs.hp a o e).2⟩⟩
/-- one object of the known part is changed -/
theorem St.upd (hs : St C σ h) {a : Addr} {o o' : Obj} (ha : σ.H a = some o) (hk : ∀ b ob, b ≠ a → h.get? b = some ob → h'.get? b = some ob) (hn : h'.get? a = some o') : St C ⟨σ.vs, σ.H.set a o'⟩ h' := by
  obtain ⟨h1, h2, h3⟩ := hs.hp a o ha
  obtain ⟨oL, es, ep, hL, r⟩ := hs.fr.ns
  refine ⟨⟨⟨oL, es, ep, hk _ _ (Ne.symm h2) hL, r⟩, fun b ob e => hk b ob (fun q => ?_) (hs.fr.keep b ob e), hs.fr.above⟩, fun b ob e => ?_⟩
  · subst q; rw [h3] at e; cases e
  · by_cases q : b = a
    · subst q
      change (σ.H.set _ _) _ = _ at e
      rw [PH.set_self] at e; cases e
      exact ⟨hn, h2, h3⟩
    · change (σ.H.set _ _) _ = _ at e
      rw [PH.set_ne q] at e
      exact ⟨hk b ob q (hs.hp b ob e).1, (hs.hp b ob e).2⟩
theorem Fram.push (hs : St C σ h) (o : Obj) : Fram C σ h ⟨σ.vs, σ.H.set h.objs.size o⟩ (h.push o) := by
  refine ⟨fun b ob e => ?_, fun b ob e _ _ => Heap.get?_push_of_some _ e⟩
  by_cases q : b = h.objs.size
  · subst q
    refine .inr ?_
    cases e2 : h.get? h.objs.size with
    | none => rfl
    | some o' => exact absurd (Heap.lt_size e2) (Nat.lt_irrefl _)
  · change (σ.H.set _ _) _ = _ at e
    rw [PH.set_ne q] at e
    exact .inl (by rw [e]; exact Option.some_ne_none _)
theorem Fram.upd {a : Addr} {o o' : Obj} (ha : σ.H a = some o) (hk : ∀ b ob, b ≠ a → h.get? b = some ob → h'.get? b = some ob) : Fram C σ h ⟨σ.vs, σ.H.set a o'⟩ h' := by
  refine ⟨fun b ob e => ?_, fun b ob e n _ => hk b ob (fun q => by subst q; rw [ha] at n; cases n) e⟩
  by_cases q : b = a
  · subst q; exact .inl (by rw [ha]; exact Option.some_ne_none _)
  · change (σ.H.set _ _) _ = _ at e
    rw [PH.set_ne q] at e
    exact .inl (by rw [e]; exact Option.some_ne_none _)
theorem Fram.of_keeps (hk : ∀ b o, h.get? b = some o → h'.get? b = some o) : Fram C σ h σ h' := ⟨fun b o e => .inl (by rw [e]; exact Option.some_ne_none _), fun b o e _ _ => hk b o e⟩
theorem St.get (hs : St C σ h) {a : Addr} {o : Obj} (ha : σ.H a = some o) : h.get? a = some o := (hs.hp a o ha).1
/-- something is forgotten -/
theorem St.forget {vs : List (Option Value)} {H H' : PH} (hs : St C ⟨vs, H'⟩ h) (hl : H.le H') : St C ⟨vs, H⟩ h := ⟨hs.fr, fun a o e => hs.hp a o (hl a o e)⟩
end

section
variable {C : Cx} {σ : Sg}
theorem j_alloc {o : Obj} {R : Addr → Sg → Prop} (hf : o.isFreed = false) (h : ∀ a, σ.H a = none → R a ⟨σ.vs, σ.H.set a o⟩) : J C (alloc o) σ R :=
  j_mk fun s _ hs q => wpAny_alloc (q _ _ _ s.toks (hs.push o hf) (Fram.push hs o) (h _ hs.newAt))
end

/-! the frame -/
def PH.both (H F : PH) : PH := fun b => match H b with | some o => some o | none => F b
section
variable {α : Type} {C : Cx} {vs : List (Option Value)} {H F : PH}
theorem PH.both_left {a : Addr} {o : Obj} (e : H a = some o) : (H.both F) a = some o := by unfold PH.both; rw [e]
theorem PH.both_right {a : Addr} (e : H a = none) : (H.both F) a = F a := by unfold PH.both; rw [e]
theorem j_frame {t : Sem α} {R : α → Sg → Prop} (hd : ∀ b, F b ≠ none → H b = none) (h : J C t ⟨vs, H⟩ (fun a σ' => (∀ b, F b ≠ none → σ'.H b = none) → R a ⟨σ'.vs, σ'.H.both F⟩)) : J C t ⟨vs, H.both F⟩ R := by
  refine j_mk fun s Q hs q => ?_
  have hs0 : St C ⟨vs, H⟩ s.heap := ⟨hs.fr, fun a o e => hs.hp a o (PH.both_left e)⟩
  have hF : ∀ b o, F b = some o → s.heap.get? b = some o ∧ b ≠ C.L ∧ C.base.get? b = none := fun b o e => hs.hp b o (by show (H.both F) b = _; rw [PH.both_right (hd b (by rw [e]; exact Option.some_ne_none _))]; exact e)
  refine j_use h hs0 fun a σ' h' tk' hs' hf r => ?_
  have hd' : ∀ b, F b ≠ none → σ'.H b = none := fun b n => by
    cases e : σ'.H b with
    | none => rfl
    | some o =>
      obtain ⟨oF, eF⟩ := Option.ne_none_iff_exists'.mp n
      rcases hf.dom b o e with h1 | h1
      · exact absurd (hd b n) h1
      · rw [(hF b oF eF).1] at h1; cases h1
  refine q a ⟨σ'.vs, σ'.H.both F⟩ h' tk' ⟨hs'.fr, fun b o e => ?_⟩ ⟨fun b o e => ?_, fun b o e n l => hf.kept b o e ?_ l⟩ (r hd')
  · cases eH : σ'.H b with
    | some ob =>
      have e' : (σ'.H.both F) b = some o := e
      rw [PH.both_left eH] at e'
      exact hs'.hp b o (by rw [eH, ← e'])
    | none =>
      have e' : (σ'.H.both F) b = some o := e
      rw [PH.both_right eH] at e'
      obtain ⟨f1, f2, f3⟩ := hF b o e'
      exact ⟨hf.kept b o f1 (hd b (by rw [e']; exact Option.some_ne_none _)) f2, f2, f3⟩
  · have e' : (σ'.H.both F) b = some o := e
    cases eH : σ'.H b with
    | some ob =>
      rcases hf.dom b ob eH with h1 | h1
      · refine .inl ?_
        obtain ⟨oo, eo⟩ := Option.ne_none_iff_exists'.mp h1
        show (H.both F) b ≠ none
        rw [PH.both_left eo]; exact Option.some_ne_none _
      · exact .inr h1
    | none =>
      rw [PH.both_right eH] at e'
      refine .inl ?_
      show (H.both F) b ≠ none
      rw [PH.both_right (hd b (by rw [e']; exact Option.some_ne_none _)), e']; exact Option.some_ne_none _
  · cases eH : H b with
    | none => exact eH
    | some ob =>
      have n' : (H.both F) b = none := n
      rw [PH.both_left eH] at n'; cases n'
/-- less is said of the known part -/
theorem j_forget {t : Sem α} {σ : Sg} {H' : PH} {R : α → Sg → Prop} (hl : H'.le σ.H) (h : J C t ⟨σ.vs, H'⟩ R) : J C t σ R := by
  refine j_mk fun s Q hs q => ?_
  refine j_use h (St.forget (H := H') (H' := σ.H) hs hl) fun a σ' h' tk' hs' hf r => q a σ' h' tk' hs' ⟨fun b o e => ?_, fun b o e n l => hf.kept b o e ?_ l⟩ r
  · rcases hf.dom b o e with h1 | h1
    · obtain ⟨oo, eo⟩ := Option.ne_none_iff_exists'.mp h1
      exact .inl (by rw [hl b oo eo]; exact Option.some_ne_none _)
    · exact .inr h1
  · cases e2 : H' b with
    | none => exact e2
    | some ob => rw [hl b ob e2] at n; cases n
theorem j_after {t : Sem α} {σ : Sg} {R : α → Sg → Prop} (h : J C t σ (fun a σ' => ∃ H', H'.le σ'.H ∧ R a ⟨σ'.vs, H'⟩)) : J C t σ R := by
  refine j_mk fun s Q hs q => ?_
  refine j_use h hs fun a σ' h' tk' hs' hf r => ?_
  obtain ⟨H', hl, r⟩ := r
  exact q a ⟨σ'.vs, H'⟩ h' tk' (St.forget hs' hl) ⟨fun b o e => hf.dom b o (hl b o e), hf.kept⟩ r
end
end Mine

namespace Mine
/-! locals by position -/
inductive At : List Str → List (Option Value) → Str → Value → Prop
  | head {x ns v vs} : At (x :: ns) (some v :: vs) x v
  | tail {y ns o vs x v} : At ns vs x v → At (y :: ns) (o :: vs) x v
inductive Put : List Str → List (Option Value) → Str → Value → List (Option Value) → Prop
  | head {x ns o vs v} : Put (x :: ns) (o :: vs) x v (some v :: vs)
  | tail {y ns o vs x v vs'} : Put ns vs x v vs' → Put (y :: ns) (o :: vs) x v (o :: vs')
theorem At.mem {ns vs x v} (h : At ns vs x v) : x ∈ ns := by
  induction h with
  | head => exact .head _
  | tail _ ih => exact .tail _ ih
theorem Put.mem {ns vs x v vs'} (h : Put ns vs x v vs') : x ∈ ns := by
  induction h with
  | head => exact .head _
  | tail _ ih => exact .tail _ ih
theorem At.look {ns vs x v} (h : At ns vs x v) (hn : ns.Nodup) : look ns vs x = some v := by
  induction h with
  | head => unfold Mine.look; rw [if_pos rfl]
  | tail h ih =>
    unfold Mine.look
    have := List.nodup_cons.mp hn
    split
    · rename_i q; exact absurd (q ▸ h.mem) this.1
    · exact ih this.2
theorem Put.look {ns vs x v vs'} (h : Put ns vs x v vs') (hn : ns.Nodup) : (fun y => if y = x then some v else Mine.look ns vs y) = Mine.look ns vs' := by
  induction h with
  | head => funext y; show _ = if _ then _ else _; split <;> simp_all [Mine.look]
  | @tail z ns o vs x v vs' h ih =>
    have hn' := List.nodup_cons.mp hn
    have hne : x ≠ z := fun q => hn'.1 (q ▸ h.mem)
    funext y
    have ih' := congrFun (ih hn'.2) y
    simp only [Mine.look] at ih' ⊢
    by_cases h1 : y = x
    · subst h1; simp only [if_true] at ih' ⊢; rw [if_neg hne]; exact ih'
    · simp only [if_neg h1] at ih' ⊢
      by_cases h2 : y = z
      · simp only [if_pos h2]
      · simp only [if_neg h2]; exact ih'
theorem look_zip : ∀ (ps : List Str) (vals : List Value) (rest : List Str), ps.length = vals.length → (ps ++ rest).Nodup → ∀ y, (ps.zip vals).reverse.lookup y = look (ps ++ rest) (vals.map some ++ rest.map fun _ => none) y
  | [], [], rest, _, _, y => by
    simp only [List.zip_nil_left, List.reverse_nil, List.lookup_nil, List.nil_append, List.map_nil]
    induction rest with
    | nil => rfl
    | cons x r ih =>
      simp only [List.map_cons, look]
      split
      · rfl
      · refine ih ?_
        rename_i h _
        exact (List.nodup_cons.mp h).2
  | p :: ps, v :: vals, rest, hl, hn, y => by
    have hn' := List.nodup_cons.mp hn
    have ih := look_zip ps vals rest (by simpa using hl) hn'.2 y
    simp only [List.zip_cons_cons, List.reverse_cons, List.cons_append, List.map_cons, look]
    rw [List.lookup_append, ih]
    by_cases h : y = p
    · rw [if_pos h]
      have : look (ps ++ rest) (vals.map some ++ rest.map fun _ => none) y = none := by
        subst h
        have key : ∀ (ns : List Str) (vs : List (Option Value)), y ∉ ns → look ns vs y = none := by
          intro ns
          induction ns with
          | nil => intro vs _; rfl
          | cons a ns ih => intro vs hm; cases vs with
            | nil => rfl
            | cons b vs => simp only [look]; rw [if_neg (fun (q : y = a) => hm (q ▸ .head _))]; exact ih vs (fun q => hm (.tail _ q))
        exact key _ _ hn'.1
      rw [this]
      simp [List.lookup, h]
    · rw [if_neg h]
      have : List.lookup y [(p, v)] = none := by
        have hb : (y == p) = false := by simpa using h
        simp only [List.lookup, hb]
      rw [this, Option.or_none]

structure Ok (C : Cx) (n : Nat) : Prop where
  X : (Mine.HeapK C.w.params).In C.base
  T : ∃ mean mg mb, Top Mine.ViewQ (looseW Mine.ViewQ [Str.ofString "Whitespace"]) mean mg mb C.base
  hh : C.A.handled = none
  depth : C.A.depth + n < recursionLimit
  units : C.A.units + 20 * n + 200 < cLine
  nodup : C.ns.Nodup
theorem Ok.le {C : Cx} {n m : Nat} (O : Ok C n) (h : m ≤ n) : Ok C m := ⟨O.X, O.T, O.hh, by have := O.depth; omega, by have := O.units; omega, O.nodup⟩

section
variable {C : Cx} {σ : Sg} {n : Nat} {env : Env} {x : Str} {pos : Pos} {v : Value}

theorem j_local {R : Value → Sg → Prop} (O : Ok C n) (hv : At C.ns σ.vs x v) (h : R v σ) (hL : env.locals = C.L := by rfl) (hk : env.scope.kind = .function := by rfl) (hx : env.kindOf x = some .local := by rfl)
    (hd : (x == ("__debug__" : Str)) = false := by decide) : J C (eval (.Name x pos) env) σ R :=
  j_same h fun s Q hs q => wpAny_Name (wpAny_loadName_local hk hx (hL ▸ hs.fr.ns) (hv.look O.nodup) (q s.toks)) hd
theorem j_localLoad {R : Value → Sg → Prop} (O : Ok C n) (hv : At C.ns σ.vs x v) (h : R v σ) (hL : env.locals = C.L := by rfl) (hk : env.scope.kind = .function := by rfl) (hx : env.kindOf x = some .local := by rfl) : J C (loadName env x) σ R :=
  j_same h fun s Q hs q => wpAny_loadName_local hk hx (hL ▸ hs.fr.ns) (hv.look O.nodup) (q s.toks)

def CellAt (H : PH) (c : Addr) (v : Value) : Prop := ∃ o, H c = some o ∧ o.data = .cell (some v)
theorem j_cell {c : Addr} {R : Value → Sg → Prop} (hc : env.cells.lookup x = some c) (hv : CellAt σ.H c v) (h : R v σ) (hk : env.scope.kind = .function := by rfl) (hx : env.kindOf x = some .cell := by rfl)
    (hd : (x == ("__debug__" : Str)) = false := by decide) : J C (eval (.Name x pos) env) σ R :=
  j_same h fun s Q hs q => let ⟨o, ho, e⟩ := hv; wpAny_Name (wpAny_loadName_cell hk hx hc ⟨o, hs.get ho, e⟩ (q s.toks)) hd
theorem j_free {c : Addr} {R : Value → Sg → Prop} (hc : env.cells.lookup x = some c) (hv : CellAt σ.H c v) (h : R v σ) (hk : env.scope.kind = .function := by rfl) (hx : env.kindOf x = some .free := by rfl)
    (hd : (x == ("__debug__" : Str)) = false := by decide) (hn : (x == ("__classdict__" : Str)) = false := by decide) : J C (eval (.Name x pos) env) σ R :=
  j_same h fun s Q hs q => let ⟨o, ho, e⟩ := hv; wpAny_Name (wpAny_loadName_free hk hx hc ⟨o, hs.get ho, e⟩ (q s.toks) hn) hd
theorem j_global {R : Value → Sg → Prop} (O : Ok C n) (e : nsIn (Mine.HeapK C.w.params) mainGlobals x = some (some v)) (h : R v σ) (hg : env.globals = mainGlobals := by rfl) (hk : env.scope.kind = .function := by rfl)
    (hx : env.kindOf x = some .globalImplicit := by rfl) (hd : (x == ("__debug__" : Str)) = false := by decide) : J C (eval (.Name x pos) env) σ R :=
  j_same h fun s Q hs q => let ⟨_, _, _, T⟩ := O.T; Name_function_global hk hx (loadGlobal_global (hg ▸ T.g.keeps hs.fr.keep) (mg_of O.X T.g e) (q s.toks)) hd
theorem j_boot {R : Value → Sg → Prop} (O : Ok C n) (e : nsIn (Mine.HeapK C.w.params) mainGlobals x = some none) (hv : bootBuiltins x = some v) (hn : x ≠ "__name__") (h : R v σ) (hg : env.globals = mainGlobals := by rfl) (hb : env.builtins = builtinsNs := by rfl)
    (hk : env.scope.kind = .function := by rfl) (hx : env.kindOf x = some .globalImplicit := by rfl) (hd : (x == ("__debug__" : Str)) = false := by decide) : J C (eval (.Name x pos) env) σ R :=
  j_same h fun s Q hs q => let ⟨_, _, _, T⟩ := O.T
    Name_function_global hk hx (loadGlobal_builtin (hg ▸ T.g.keeps hs.fr.keep) (mg_none_of O.X T.g e) (hb ▸ T.b.keeps hs.fr.keep) ((T.builtins x hn).trans hv) (q s.toks)) hd

theorem j_store {vs : List (Option Value)} {H : PH} {vs' : List (Option Value)} {R : Unit → Sg → Prop} (O : Ok C n) (hp : Put C.ns vs x v vs') (h : R () ⟨vs', H⟩) (hL : env.locals = C.L := by rfl) (hk : env.scope.kind = .function := by rfl) (hx : env.kindOf x = some .local := by rfl) :
    J C (storeName env x v) ⟨vs, H⟩ R :=
  j_mk fun s Q hs q => wpAny_storeName_local hx (hL ▸ hs.fr.ns) (fun h' hn hsb => q () ⟨vs', H⟩ h' (s.toks + 1)
    ⟨by rw [← hp.look O.nodup]; exact hs.fr.set (hL ▸ hn) (hL ▸ hsb), fun a o e => ⟨(hsb.2 a (hL ▸ (hs.hp a o e).2.1)).trans (hs.hp a o e).1, (hs.hp a o e).2⟩⟩
    ⟨fun b o e => .inl (by show H b ≠ none; rw [show H b = some o from e]; exact Option.some_ne_none _), fun b o e _ l => (hsb.2 b (hL ▸ l)).trans e⟩ h)
    (by show (env.scope.kind == .class || (env.scope.kind == .module && _)) = false; rw [hk]; rfl)
theorem j_storeCell {vs : List (Option Value)} {H : PH} {c : Addr} {o : Obj} {v₀ : Option Value} {R : Unit → Sg → Prop} (hc : env.cells.lookup x = some c) (ho : H c = some o) (hd : o.data = .cell v₀)
    (h : ∀ o', o'.data = .cell (some v) → R () ⟨vs, H.set c o'⟩) (hk : env.scope.kind = .function := by rfl) (hx : env.kindOf x = some .cell := by rfl) : J C (storeName env x v) ⟨vs, H⟩ R :=
  j_mk fun s Q hs q => wpAny_storeName_cell hk hx hc ⟨o, hs.get ho, hd⟩ fun h' hv hsb => by
    obtain ⟨o', ho', hd'⟩ := hv
    exact q () ⟨vs, H.set c o'⟩ h' s.toks (hs.upd ho (fun b ob hb e => (hsb.2 b hb).trans e) ho') (Fram.upd ho fun b ob hb e => (hsb.2 b hb).trans e) (h o' hd')
end

/-! hiding the known part for a called def -/
def hidden (H : PH) (h : Heap) : Heap := hideAll h ((List.range h.objs.size).filter fun a => (H a).isSome)
theorem hidden_size (H : PH) (h : Heap) : (hidden H h).objs.size = h.objs.size := hideAll_size _ _
theorem of_hidden {H : PH} {h : Heap} {b : Addr} {o : Obj} (e : (hidden H h).get? b = some o) : h.get? b = some o := of_hideAll _ e
theorem hidden_get {H : PH} {h : Heap} {b : Addr} {o : Obj} (e : h.get? b = some o) (n : H b = none) : (hidden H h).get? b = some o :=
  hideAll_get _ e fun q => by
    have := (List.mem_filter.mp q).2
    rw [n] at this; cases this
theorem hidden_none {H : PH} {h : Heap} {b : Addr} {o ob : Obj} (e : h.get? b = some ob) (n : H b = some o) : (hidden H h).get? b = none :=
  hideAll_none _ (List.mem_filter.mpr ⟨List.mem_range.mpr (Heap.lt_size e), by rw [n]; rfl⟩)

section
variable {C : Cx} {σ : Sg}
theorem St.stays {h : Heap} (hs : St C σ h) : ∀ b o, C.base.get? b = some o → (hidden σ.H h).get? b = some o := fun b o e => by
  refine hidden_get (hs.fr.keep b o e) ?_
  cases q : σ.H b with
  | none => rfl
  | some ob => rw [(hs.hp b ob q).2.2] at e; cases e
/-- back from a called def -/
theorem St.back {h h' : Heap} {C' : Cx} {σ' : Sg} (hs : St C σ h) (hb : C'.base = hidden σ.H h) (hs' : St C' σ' h') : St C ⟨σ.vs, σ'.H⟩ h' := by
  have nL : σ.H C.L = none := by
    cases q : σ.H C.L with
    | none => rfl
    | some o => exact absurd rfl (hs.hp _ _ q).2.1
  obtain ⟨oL, es, ep, hL, r⟩ := hs.fr.ns
  have hL' : (hidden σ.H h).get? C.L = some oL := hidden_get hL nL
  have kp : ∀ b o, (hidden σ.H h).get? b = some o → h'.get? b = some o := fun b o e => hs'.fr.keep b o (hb ▸ e)
  refine ⟨⟨⟨oL, es, ep, kp _ _ hL', r⟩, fun b o e => kp b o (hs.stays b o e), hs.fr.above⟩, fun a o e => ⟨(hs'.hp a o e).1, fun q => ?_, ?_⟩⟩
  · subst q
    have := (hs'.hp _ o e).2.2
    rw [hb, hL'] at this; cases this
  · cases q : C.base.get? a with
    | none => rfl
    | some ob =>
      have := (hs'.hp a o e).2.2
      rw [hb, hs.stays a ob q] at this; cases this
end

section
variable {C : Cx} {σ : Sg} {n : Nat} {f : Addr} {name qual : Str} {params : Arguments} {body : List Stmt} {scope : Scope} {dV kV doc pm cdv ct oc : Value} {an od : Option Addr} {osl : Array (Option Value)} {vals : List Value} {rest : List Str}
theorem j_call {R : Value → Sg → Prop} (ns : List Str) (vs₀ : List (Option Value)) (O : Ok C (n + 1)) (ho : (Mine.HeapK C.w.params).lookup f = some ⟨oc, od, .func (fnOf name qual params body scope dV kV doc pm an cdv ct), osl⟩) (hcd : codeIn (Mine.HeapK C.w.params) cdv qual = true)
    (hbind : bindArgs (fnOf name qual params body scope dV kV doc pm an cdv ct) ⟨vals, []⟩ = pure ((params.args.map (·.arg)).zip vals)) (hlen : (params.args.map (·.arg)).length = vals.length)
    (hloc : ∀ y ∈ (params.args.map (·.arg)).zip vals, scope.names.lookup y.1 = some .local) (hns : params.args.map (·.arg) ++ rest = ns) (hvs : vals.map some ++ rest.map (fun _ => none) = vs₀) (hnd : ns.Nodup) (hcell : ∀ x ∈ scope.names, x.2 ≠ .cell)
    (hco : scope.isCoroutine = false) (hgen : scope.isGenerator = false) (hk : scope.kind = .function)
    (h : ∀ A' base' L', (∀ b o, C.base.get? b = some o → base'.get? b = some o) → Ok ⟨C.w, A', base', L', ns⟩ n → J ⟨C.w, A', base', L', ns⟩ (execs body (envOf qual scope L' f cdv)) ⟨vs₀, σ.H⟩
      (fun fl σ' => R (match fl with | .ret v => v | _ => .none) ⟨σ.vs, σ'.H⟩)) : J C (PySem.call (.ref f) vals) σ R := by
  subst hns hvs
  refine j_mk fun s Q hs q => wpAny_call ?_
  obtain ⟨mean, mg, mb, T⟩ := O.T
  have X := O.X.keeps hs.fr.keep
  refine codeAny_call_def (fd := fnOf name qual params body scope dV kV doc pm an cdv ct) (body := body) (by have := O.depth; omega) (X _ _ ho) rfl (T.nolimit.keeps hs.fr.keep) (codeRec_of X hcd) rfl (BindsTo.of_eq hbind) hcell hloc (fun h₁ hns hk₁ => ?_) hco hgen hk
  have O' : Ok ⟨C.w, C.A.deeper (callEnv (fnOf name qual params body scope dV kV doc pm an cdv ct) s.heap.objs.size f), hidden σ.H s.heap, s.heap.objs.size, params.args.map (·.arg) ++ rest⟩ n :=
    ⟨O.X.keeps (hs.stays), ⟨mean, mg, mb, T.keeps hs.stays⟩, O.hh, by have := O.depth; show C.A.depth + 1 + n < _; omega, by have := O.units; show C.A.units + 3 + 20 * n + 200 < _; omega, hnd⟩
  have hs' : St ⟨C.w, C.A.deeper (callEnv (fnOf name qual params body scope dV kV doc pm an cdv ct) s.heap.objs.size f), hidden σ.H s.heap, s.heap.objs.size, params.args.map (·.arg) ++ rest⟩
      ⟨vals.map some ++ rest.map (fun _ => none), σ.H⟩ h₁ := by
    refine ⟨⟨?_, fun b o e => hk₁ b o (of_hidden e), Nat.le_of_eq (hidden_size _ _)⟩, fun a o e => ⟨hk₁ _ _ (hs.get e), Nat.ne_of_lt (Heap.lt_size (hs.get e)), hidden_none (hs.get e) e⟩⟩
    have e : (fun x => ((params.args.map (·.arg)).zip vals).reverse.lookup x) = look (params.args.map (·.arg) ++ rest) (vals.map some ++ rest.map fun _ => none) := funext (look_zip _ _ _ hlen hnd)
    rw [← e]; exact hns
  exact j_use (h _ _ _ hs.stays O') (s := { s with heap := h₁, toks := s.toks + ((params.args.map (·.arg)).zip vals).length }) hs' fun fl σ' h' tk' hs'' hf r => q _ _ h' tk' (hs.back rfl hs'')
    ⟨fun b o e => (hf.dom b o e).imp id (fun e1 => by
      cases e2 : s.heap.get? b with
      | none => rfl
      | some ob => exact absurd e1 (by rw [hk₁ b ob e2]; exact Option.some_ne_none _)),
      fun b o e n _ => hf.kept b o (hk₁ b o e) n (Nat.ne_of_lt (Heap.lt_size e))⟩ r
end
end Mine

namespace Mine
section
variable {C : Cx} {σ : Sg} {n : Nat} {env : Env} {pos : Pos}

/-! expressions -/
theorem j_int {i : Int} {k : Nat} {R : Value → Sg → Prop} (h : ∀ t, R (.int i t) σ) : J C (eval (.Constant (.int i) k pos) env) σ R := j_mkInt h
theorem j_str {x : Str} {k : Nat} {R : Value → Sg → Prop} (h : ∀ t, R (.str x t) σ) : J C (eval (.Constant (.str x) k pos) env) σ R := j_mkText h
theorem j_bool {b : Bool} {k : Nat} {R : Value → Sg → Prop} (h : R (.bool b) σ) : J C (eval (.Constant (.bool b) k pos) env) σ R := j_ret h
theorem j_binop {l r : Expr} {op : Operator} {R : Value → Sg → Prop} (h : J C (eval l env) σ fun a σ₁ => J C (eval r env) σ₁ fun b σ₂ => J C (binaryOp op a b) σ₂ R) : J C (eval (.BinOp l op r pos) env) σ R := by
  show J C (do
    let a ← eval l env
    let b ← holding [a] (eval r env)
    standAt pos
    operate [a, b] (binaryOp op a b)) σ R
  exact j_bind (j_mono h fun a σ₁ h₁ => j_bind (j_holding (j_mono h₁ fun b σ₂ h₂ => j_bind (j_standAt (j_operate h₂)))))
theorem j_unop {op : UnaryOp} {x : Expr} {R : Value → Sg → Prop} (h : J C (eval x env) σ fun a σ₁ => J C (unaryOp op a) σ₁ R) : J C (eval (.UnaryOp op x pos) env) σ R := by
  show J C (do let v ← eval x env; standAt pos; holding [v] (unaryOp op v)) σ R
  exact j_bind (j_mono h fun a σ₁ h₁ => j_bind (j_standAt (j_holding h₁)))
theorem j_ifexp {t b o : Expr} {R : Value → Sg → Prop} (h : J C (isTrue t env (eval t env)) σ fun c σ₁ => if c then J C (eval b env) σ₁ R else J C (eval o env) σ₁ R) : J C (eval (.IfExp t b o pos) env) σ R := by
  show J C (do if ← isTrue t env (eval t env) then eval b env else eval o env) σ R
  refine j_bind (j_mono h fun c σ₁ h₁ => ?_)
  cases c <;> simpa using h₁
theorem j_compare {l r : Expr} {op : CmpOp} {R : Value → Sg → Prop} (h : J C (eval l env) σ fun a σ₁ => J C (eval r env) σ₁ fun b σ₂ => J C (compareOp op a b) σ₂ R) (hm : behindInMarks op r = false := by with_unfolding_all rfl) :
    J C (eval (.Compare l [op] [r] pos) env) σ R := by
  refine j_mk fun s Q hs q => wpAny_Compare1 (j_use h hs fun a σ₁ h₁ t₁ s₁ f₁ r₁ => j_use r₁ (s := { s with heap := h₁, toks := t₁ }) s₁ fun b σ₂ h₂ t₂ s₂ f₂ r₂ => j_use r₂ (s := { s with heap := h₂, toks := t₂ }) s₂ fun c σ₃ h₃ t₃ s₃ f₃ r₃ => q c σ₃ h₃ t₃ s₃ (f₁.trans s₁ (f₂.trans s₂ f₃)) r₃) hm
theorem j_spnil {p : Pos} {R : List Value → Sg → Prop} (h : R [] σ) : J C (spliced (backTo p (starEach [] env))) σ R := j_ret h
theorem j_spcons {p : Pos} {e : Expr} {rest : List Expr} {R : List Value → Sg → Prop} (h : J C (eval e env) σ fun v σ₁ => J C (spliced (backTo p (starEach rest env))) σ₁ fun vs σ₂ => R (v :: vs) σ₂)
    (he : starEach (e :: rest) env = (false, eval e env) :: starEach rest env := by rfl) : J C (spliced (backTo p (starEach (e :: rest) env))) σ R := by
  rw [he]
  show J C (spliced ((false, eval e env) :: backTo p (starEach rest env))) σ R
  refine j_mk fun s Q hs q => spliced_cons (j_use h hs fun a σ₁ h₁ t₁ s₁ f₁ r₁ => j_use r₁ (s := { s with heap := h₁, toks := t₁ }) s₁ fun b σ₂ h₂ t₂ s₂ f₂ r₂ => q _ σ₂ h₂ t₂ s₂ (f₁.trans s₁ f₂) r₂)
theorem j_list {elts : List Expr} {R : Value → Sg → Prop} (h : J C (spliced (backTo pos (starEach elts env))) σ fun vs σ₁ => J C (newList vs) σ₁ R) : J C (eval (.List elts pos) env) σ R := by
  show J C (do standAt pos; newList (← spliced (backTo pos (starEach elts env)))) σ R
  exact j_bind (j_standAt (j_bind h))
theorem j_tuple {elts : List Expr} {k : Nat} {R : Value → Sg → Prop} (h : J C (spliced (backTo pos (starEach elts env))) σ fun vs σ₁ => J C (newTuple vs) σ₁ R) : J C (eval (.Tuple elts k pos) env) σ R := by
  show J C (do standAt pos; newTuple (← spliced (backTo pos (starEach elts env)))) σ R
  exact j_bind (j_standAt (j_bind h))
/-- a call's callee stands behind its arguments -/
def Keeps1 (C : Cx) (f : Value) : Prop := ∀ h, (Mine.HeapK C.w.params).In h → ∃ k, (k = Keeper.frame ∨ k = Keeper.machine ∨ k = Keeper.boundFrame) ∧ Looks (model PySem.Challenge.pw_sw0062_01 C.w) h (keeperOf f) k
theorem keeps1_K {f : Value} (h : keepIn (Mine.HeapK C.w.params) f = true) : Keeps1 C f := keeps_K h
theorem keeps1_builtin {id : String} : Keeps1 C (.builtin id) := fun h _ => ⟨.machine, .inr (.inl rfl), Looks.of_pure rfl⟩
theorem keeps1_type {id : String} : Keeps1 C (.type id) := fun h _ => ⟨.machine, .inr (.inl rfl), Looks.of_pure rfl⟩
theorem j_callWith {f : Value} {first : List Value} {args : List Expr} {R : Value → Sg → Prop} (O : Ok C n) (hk : Keeps1 C f) (h : J C (spliced (backTo pos (starEach args env))) σ fun vs σ₁ => J C (PySem.call f (first ++ vs)) σ₁ R)
    (hplain : (backTo pos (starEach args env)).any (·.1) = false := by rfl) : J C (callWith pos f first (backTo pos (starEach args env)) []) σ R := by
  refine j_mk fun s Q hs q => callWith_of (P := fun h => (Mine.HeapK C.w.params).In h) (by rw [hplain]; rfl) hk ?_
  have body : wpAny (model PySem.Challenge.pw_sw0062_01 C.w) C.A (spliced (backTo pos (starEach args env))) (fun vs s₁ => (Mine.HeapK C.w.params).In s₁.heap ∧ wpAny (model PySem.Challenge.pw_sw0062_01 C.w) C.A (PySem.call f (first ++ vs) []) Q (fun _ _ => False) s₁) (fun _ _ => False) s :=
    j_use h hs fun vs σ₁ h₁ t₁ s₁ f₁ r₁ => ⟨O.X.keeps s₁.fr.keep, j_use r₁ (s := { s with heap := h₁, toks := t₁ }) s₁ fun v σ₂ h₂ t₂ s₂ f₂ r₂ => q v σ₂ h₂ t₂ s₂ (f₁.trans s₁ f₂) r₂⟩
  cases hl : backTo pos (starEach args env) with
  | nil =>
    rw [hl] at body
    unfold evalArgs
    show wpAny _ _ (spliced [] >>= _) _ _ s
    refine wpAny_bind (wpAny_mono body (fun vs s₁ h₁ => wpAny_bind (wpAny_pure ?_)) fun _ _ x => x)
    refine wpAny_holding ?_
    exact wpAny_bind (wpAny_pure (wpAny_bind (wpAny_pure (wpAny_pure h₁))))
  | cons a r =>
    rw [hl] at body hplain
    obtain ⟨b, t⟩ := a
    have hb : b = false := by simp only [List.any_cons, Bool.or_eq_false_iff] at hplain; exact hplain.1
    subst hb
    exact evalArgs_plain body

/-! tests -/
theorem j_isTrueCmp {l r : Expr} {op : CmpOp} {whole : Sem Value} {R : Bool → Sg → Prop} (h : J C (eval l env) σ fun a σ₁ => J C (eval r env) σ₁ fun b σ₂ => J C (compareOp op a b) σ₂ fun c σ₃ => J C (truthy c) σ₃ R)
    (hm : behindInMarks op r = false := by with_unfolding_all rfl) : J C (isTrue (.Compare l [op] [r] pos) env whole) σ R := by
  rw [isTrue_Compare1, markedBehindIn_of_false hm]
  exact j_bind (j_mono h fun a σ₁ h₁ => j_bind (j_holding (j_mono h₁ fun b σ₂ h₂ => j_bind (j_standAt (j_bind (j_operate (j_mono h₂ fun c σ₃ h₃ => j_holding h₃)))))))
theorem j_isTrueNot {x : Expr} {whole : Sem Value} {R : Bool → Sg → Prop} (h : J C (isTrue x env (eval x env)) σ fun b σ₁ => R (!b) σ₁) : J C (isTrue (.UnaryOp .Not x pos) env whole) σ R := by
  show J C (do return !(← isTrue x env (eval x env))) σ R
  exact j_bind (j_mono h fun b σ₁ h₁ => j_ret h₁)
theorem j_isTrueVal {e : Expr} {whole : Sem Value} {R : Bool → Sg → Prop} (h : J C whole σ fun v σ₁ => J C (truthy v) σ₁ R)
    (he : isTrue e env whole = (do let v ← whole; standAt e.pos; holding [v] (truthy v)) := by rfl) : J C (isTrue e env whole) σ R := by
  rw [he]
  exact j_bind (j_mono h fun v σ₁ h₁ => j_bind (j_standAt (j_holding h₁)))
theorem j_isTrueBool {op : BoolOp} {vs : List Expr} {whole : Sem Value} {R : Bool → Sg → Prop} (h : J C (allTrue op vs env) σ R) : J C (isTrue (.BoolOp op vs pos) env whole) σ R := h
theorem j_andNil {R : Bool → Sg → Prop} (h : R true σ) : J C (allTrue .And [] env) σ R := j_ret h
theorem j_andCons {x : Expr} {rest : List Expr} {R : Bool → Sg → Prop} (h : J C (isTrue x env (eval x env)) σ fun b σ₁ => (b = true → J C (allTrue .And rest env) σ₁ R) ∧ (b = false → R false σ₁)) : J C (allTrue .And (x :: rest) env) σ R := by
  show J C (do match BoolOp.And, ← isTrue x env (eval x env) with | .And, false => pure false | .Or, true => pure true | _, _ => allTrue .And rest env) σ R
  refine j_bind (j_mono h fun b σ₁ h₁ => ?_)
  cases b with
  | true => exact h₁.1 rfl
  | false => exact j_ret (h₁.2 rfl)
theorem j_truthyBool {b : Bool} {R : Bool → Sg → Prop} (h : R b σ) : J C (truthy (.bool b)) σ R := j_same h fun s Q hs q => wpAny_truthy_bool (q s.toks)

/-! statements -/
def Seq (C : Cx) (rest : List Stmt) (env : Env) (R : Flow → Sg → Prop) : Flow → Sg → Prop
  | .next, σ => J C (execs rest env) σ R
  | f, σ => R f σ
theorem j_nil {R : Flow → Sg → Prop} (h : R .next σ) : J C (execs [] env) σ R := j_ret h
theorem j_cons {st : Stmt} {rest : List Stmt} {R : Flow → Sg → Prop} (h : J C (exec st env) σ (Seq C rest env R)) : J C (execs (st :: rest) env) σ R := by
  show J C (do match ← exec st env with | .next => execs rest env | f => pure f) σ R
  refine j_bind (j_mono h fun f σ₁ h₁ => ?_)
  cases f with
  | next => exact h₁
  | brk => exact j_ret h₁
  | cont => exact j_ret h₁
  | ret v => exact j_ret h₁
theorem j_last {st : Stmt} {R : Flow → Sg → Prop} (h : J C (exec st env) σ R) : J C (execs [st] env) σ R := j_cons (j_mono h fun f σ₁ h₁ => by
  cases f with
  | next => exact j_nil h₁
  | brk => exact h₁
  | cont => exact h₁
  | ret v => exact h₁)
theorem seq_next {rest : List Stmt} {R : Flow → Sg → Prop} (h : J C (execs rest env) σ R) : Seq C rest env R .next σ := h
theorem seq_ret {rest : List Stmt} {R : Flow → Sg → Prop} {v : Value} (h : R (.ret v) σ) : Seq C rest env R (.ret v) σ := h
theorem seq_cont {rest : List Stmt} {R : Flow → Sg → Prop} (h : R .cont σ) : Seq C rest env R .cont σ := h
theorem seq_brk {rest : List Stmt} {R : Flow → Sg → Prop} (h : R .brk σ) : Seq C rest env R .brk σ := h

theorem j_if {t : Expr} {b o : List Stmt} {R : Flow → Sg → Prop} (h : J C (isTrue t env (eval t env)) σ fun c σ₁ => (c = true → J C (execs b env) σ₁ R) ∧ (c = false → J C (execs o env) σ₁ R)) : J C (exec (.If t b o pos) env) σ R := by
  rw [exec_If]
  refine j_bind (j_standAt (j_bind (j_mono h fun c σ₁ h₁ => ?_)))
  cases c with
  | true => exact h₁.1 rfl
  | false => exact h₁.2 rfl
theorem j_return {e : Expr} {R : Flow → Sg → Prop} (h : J C (eval e env) σ fun v σ₁ => R (.ret v) σ₁) : J C (exec (.Return (some e) pos) env) σ R := by
  rw [exec_Return_some]
  exact j_bind (j_standAt (j_bind (j_mono h fun v σ₁ h₁ => j_ret h₁)))
theorem j_pass {R : Flow → Sg → Prop} (h : R .next σ) : J C (exec (.Pass pos) env) σ R := j_bind (j_standAt (j_ret h))
theorem j_break {R : Flow → Sg → Prop} (h : R .brk σ) : J C (exec (.Break pos) env) σ R := j_bind (j_standAt (j_ret h))
theorem j_continue {R : Flow → Sg → Prop} (h : R .cont σ) : J C (exec (.Continue pos) env) σ R := j_bind (j_standAt (j_ret h))
theorem j_assignName {x : Str} {p : Pos} {v : Value} {R : Unit → Sg → Prop} (h : J C (storeName env x v) σ R) : J C (assign (.Name x p) env v) σ R := by
  refine j_mk fun s Q hs q => wpAny_assign_Name (j_use h hs q)
theorem j_set {x : Str} {p : Pos} {e : Expr} {R : Flow → Sg → Prop} (h : J C (eval e env) σ fun v σ₁ => J C (storeName env x v) σ₁ fun _ σ₂ => R .next σ₂) (hs : swapsWith e (some (.Name x p)) pos.line env = Pure.pure false := by rfl) :
    J C (exec (.Assign [.Name x p] e pos) env) σ R := by
  refine j_mk fun s Q hs0 q => wpAny_Assign_Name (j_use h hs0 fun v σ₁ h₁ t₁ s₁ f₁ r₁ => j_use r₁ (s := { s with heap := h₁, toks := t₁ }) s₁ fun _ σ₂ h₂ t₂ s₂ f₂ r₂ => q _ σ₂ h₂ t₂ s₂ (f₁.trans s₁ f₂) r₂) hs
theorem j_aug {x : Str} {p : Pos} {op : Operator} {e : Expr} {R : Flow → Sg → Prop} (h : J C (loadName env x) σ fun old σ₁ => J C (eval e env) σ₁ fun v σ₂ => J C (inplaceOp op old v) σ₂ fun r σ₃ => J C (storeName env x r) σ₃ fun _ σ₄ => R .next σ₄) :
    J C (exec (.AugAssign (.Name x p) op e pos) env) σ R := by
  refine j_mk fun s Q hs q => wpAny_AugAssign_Name (j_use h hs fun _ σ₁ h₁ t₁ s₁ f₁ r₁ => j_use r₁ (s := { s with heap := h₁, toks := t₁ }) s₁ fun _ σ₂ h₂ t₂ s₂ f₂ r₂ => j_use r₂ (s := { s with heap := h₂, toks := t₂ }) s₂ fun _ σ₃ h₃ t₃ s₃ f₃ r₃ =>
    j_use r₃ (s := { s with heap := h₃, toks := t₃ }) s₃ fun _ σ₄ h₄ t₄ s₄ f₄ r₄ => q _ σ₄ h₄ t₄ s₄ (f₁.trans s₁ (f₂.trans s₂ (f₃.trans s₃ f₄))) r₄)

/-! loops -/
def Turn (R : Flow → Sg → Prop) (I : Nat → Sg → Prop) (k : Nat) : Flow → Sg → Prop
  | .next, σ => ∃ m, m < k ∧ I m σ
  | .cont, σ => ∃ m, m < k ∧ I m σ
  | .brk, σ => R .next σ
  | .ret v, σ => R (.ret v) σ
theorem j_while {test : Expr} {body : List Stmt} {R : Flow → Sg → Prop} (I : Nat → Sg → Prop) (k : Nat) (hI : I k σ)
    (turn : ∀ k σ₁, I k σ₁ → J C (isTrue test env (eval test env)) σ₁ fun b σ₂ => (b = true → J C (execs body env) σ₂ (Turn R I k)) ∧ (b = false → R .next σ₂)) : J C (exec (.While test body [] pos) env) σ R := by
  refine j_mk fun s Q hs q => wpAny_While (codeAny_whileLoop (fun k s' => ∃ σ' h' tk', s' = { s with heap := h', toks := tk' } ∧ St C σ' h' ∧ Fram C σ s.heap σ' h' ∧ I k σ') (fun k s' hk => ?_) k ⟨σ, s.heap, s.toks, rfl, hs, .refl, hI⟩)
  obtain ⟨σ₁, h₁, t₁, rfl, s₁, f₁, i₁⟩ := hk
  refine j_use (turn k σ₁ i₁) (s := { s with heap := h₁, toks := t₁ }) s₁ fun b σ₂ h₂ t₂ s₂ f₂ r₂ => ?_
  have f2 := f₁.trans s₁ f₂
  cases b with
  | false => exact wpAny_execs_nil (q _ σ₂ h₂ t₂ s₂ f2 (r₂.2 rfl))
  | true =>
    refine j_use (r₂.1 rfl) (s := { s with heap := h₂, toks := t₂ }) s₂ fun f σ₃ h₃ t₃ s₃ f₃ r₃ => ?_
    have f3 := f2.trans s₂ f₃
    cases f with
    | next => obtain ⟨m, hm, r₃⟩ := r₃; exact ⟨m, hm, σ₃, h₃, t₃, rfl, s₃, f3, r₃⟩
    | cont => obtain ⟨m, hm, r₃⟩ := r₃; exact ⟨m, hm, σ₃, h₃, t₃, rfl, s₃, f3, r₃⟩
    | brk => exact q _ σ₃ h₃ t₃ s₃ f3 r₃
    | ret v => exact q _ σ₃ h₃ t₃ s₃ f3 r₃
def ForAt (C : Cx) (target : Expr) (body : List Stmt) (env : Env) (R : Flow → Sg → Prop) (it : Value) (σ : Sg) : Prop :=
  ∃ (I : Nat → Sg → Prop) (k : Nat), I k σ ∧ ∀ k σ₁, I k σ₁ → J C (pyNext it) σ₁ fun r σ₂ => match r with
    | none => R .next σ₂
    | some v => J C (letOwnedTupleGo target it v) σ₂ fun _ σ₃ => J C (assign target env v) σ₃ fun _ σ₄ => J C (execs body env) σ₄ (Turn R I k)
theorem j_for {target iter : Expr} {body : List Stmt} {R : Flow → Sg → Prop} (h : J C (eval iter env) σ fun x σ₁ => J C (pyIter x) σ₁ fun it σ₂ => ForAt C target body env R it σ₂)
    (hs : ∀ x, foldedSetIterable iter env x = Pure.pure x := by intro _; rfl) : J C (exec (.For target iter body [] pos) env) σ R := by
  refine j_mk fun s Q hs0 q => wpAny_For (j_use h hs0 fun x σa ha ta sa fa ra => j_use ra (s := { s with heap := ha, toks := ta }) sa fun it σ₀ h₀ t₀ s₀ f₀ r₀ => ?_) hs
  obtain ⟨I, k, hI, turn⟩ := r₀
  have f00 := fa.trans sa f₀
  refine codeAny_forLoop_any (fun k s' => ∃ σ' h' tk', s' = { s with heap := h', toks := tk' } ∧ St C σ' h' ∧ Fram C σ s.heap σ' h' ∧ I k σ') (fun k s' hk => ?_) k ⟨σ₀, h₀, t₀, rfl, s₀, f00, hI⟩
  obtain ⟨σ₁, h₁, t₁, rfl, s₁, f₁, i₁⟩ := hk
  refine j_use (turn k σ₁ i₁) (s := { s with heap := h₁, toks := t₁ }) s₁ fun r σ₂ h₂ t₂ s₂ f₂ r₂ => ?_
  have f2 := f₁.trans s₁ f₂
  cases r with
  | none => exact wpAny_execs_nil (q _ σ₂ h₂ t₂ s₂ f2 r₂)
  | some v =>
    refine j_use r₂ (s := { s with heap := h₂, toks := t₂ }) s₂ fun _ σ₃ h₃ t₃ s₃ f₃ r₃ => j_use r₃ (s := { s with heap := h₃, toks := t₃ }) s₃ fun _ σ₄ h₄ t₄ s₄ f₄ r₄ =>
      j_use r₄ (s := { s with heap := h₄, toks := t₄ }) s₄ fun f σ₅ h₅ t₅ s₅ f₅ r₅ => ?_
    have f5 := f2.trans s₂ (f₃.trans s₃ (f₄.trans s₄ f₅))
    cases f with
    | next => obtain ⟨m, hm, r₅⟩ := r₅; exact ⟨m, hm, σ₅, h₅, t₅, rfl, s₅, f5, r₅⟩
    | cont => obtain ⟨m, hm, r₅⟩ := r₅; exact ⟨m, hm, σ₅, h₅, t₅, rfl, s₅, f5, r₅⟩
    | brk => exact q _ σ₅ h₅ t₅ s₅ f5 r₅
    | ret v => exact q _ σ₅ h₅ t₅ s₅ f5 r₅
/-- a method's call: the callee by the machine's own look -/
theorem j_methCall {o : Expr} {name : Str} {apos : Pos} {args : List Expr} {pl : Sem Bool} {R : Value → Sg → Prop}
    (h : J C (eval o env) σ fun ov σ₁ => J C (getMethod ov name pl) σ₁ fun fx σ₂ => J C (callWith pos fx.1 fx.2 (backTo pos (starEach args env)) []) σ₂ R)
    (he : eval (.Call (.Attribute o name apos) args [] pos) env = (do
      let ov ← eval o env
      PySem.standAt apos.atName
      let (f, first) ← PySem.holding [ov] (getMethod ov name pl)
      callWith pos f first (backTo pos (starEach args env)) (backToKw pos (keywordEach [] env))) := by rfl) : J C (eval (.Call (.Attribute o name apos) args [] pos) env) σ R := by
  rw [he]
  exact j_bind (j_mono h fun ov σ₁ h₁ => j_bind (j_standAt (j_bind (j_holding (j_mono h₁ fun fx σ₂ h₂ => h₂)))))
theorem j_callName {x : Str} {p : Pos} {args : List Expr} {R : Value → Sg → Prop} (h : J C (eval (.Name x p) env) σ fun f σ₁ => J C (callWith pos f [] (backTo pos (starEach args env)) []) σ₁ R) : J C (eval (.Call (.Name x p) args [] pos) env) σ R := by
  show J C (do callWith pos (← eval (.Name x p) env) [] (backTo pos (starEach args env)) (backToKw pos (keywordEach [] env))) σ R
  exact j_bind h

/-! ints -/
section
variable {a b : Int} {t u : Tok} {R : Value → Sg → Prop}
theorem j_addI (h : ∀ t, R (.int (a + b) t) σ) : J C (binaryOp .Add (.int a t) (.int b u)) σ R := j_mk fun s Q hs q => add_int (q _ σ s.heap (s.toks + 1) hs .refl (h _))
theorem j_subI (h : ∀ t, R (.int (a - b) t) σ) : J C (binaryOp .Sub (.int a t) (.int b u)) σ R := j_mk fun s Q hs q => sub_int (q _ σ s.heap (s.toks + 1) hs .refl (h _))
theorem j_mulI (hm : IntMulOk a b) (h : ∀ t, R (.int (a * b) t) σ) : J C (binaryOp .Mult (.int a t) (.int b u)) σ R := j_mk fun s Q hs q => mul_int (q _ σ s.heap (s.toks + 1) hs .refl (h _)) hm
theorem j_andI (h : ∀ t, R (.int (Builtin.bitAnd a b) t) σ) : J C (binaryOp .BitAnd (.int a t) (.int b u)) σ R := j_mk fun s Q hs q => and_int (q _ σ s.heap (s.toks + 1) hs .refl (h _))
theorem j_orI (h : ∀ t, R (.int (Builtin.bitOr a b) t) σ) : J C (binaryOp .BitOr (.int a t) (.int b u)) σ R := j_mk fun s Q hs q => or_int (q _ σ s.heap (s.toks + 1) hs .refl (h _))
theorem j_invI (h : ∀ t, R (.int (Builtin.bitNot a) t) σ) : J C (unaryOp .Invert (.int a t)) σ R := j_mk fun s Q hs q => invert_int (q _ σ s.heap (s.toks + 1) hs .refl (h _))
theorem j_negI (h : ∀ t, R (.int (-a) t) σ) : J C (unaryOp .USub (.int a t)) σ R := j_mk fun s Q hs q => neg_int (q _ σ s.heap (s.toks + 1) hs .refl (h _))
theorem j_divI (h0 : b ≠ 0) (hd : Builtin.divisionGoesByPylong a b = false) (h : ∀ t, R (.int (a.fdiv b) t) σ) : J C (binaryOp .FloorDiv (.int a t) (.int b u)) σ R := j_mk fun s Q hs q => floordiv_int h0 (q _ σ s.heap (s.toks + 1) hs .refl (h _)) (.inl hd)
theorem j_modI (h0 : b ≠ 0) (h : ∀ t, R (.int (a.fmod b) t) σ) : J C (binaryOp .Mod (.int a t) (.int b u)) σ R := j_mk fun s Q hs q => mod_int' h0 (q _ σ s.heap (s.toks + 1) hs .refl (h _))
theorem j_shlI (h0 : 0 ≤ b) (h1 : b ≤ 1000000) (ha : a.natAbs < 2 ^ 64) (h : ∀ t, R (.int (a * 2 ^ b.toNat) t) σ) : J C (binaryOp .LShift (.int a t) (.int b u)) σ R := j_mk fun s Q hs q => lshift_int_small h0 h1 ha (q _ σ s.heap (s.toks + 1) hs .refl (h _))
theorem j_shrI (h0 : 0 ≤ b) (h : ∀ t, R (.int (a.fdiv (2 ^ b.toNat)) t) σ) : J C (binaryOp .RShift (.int a t) (.int b u)) σ R := j_mk fun s Q hs q => rshift_int h0 (q _ σ s.heap (s.toks + 1) hs .refl (h _))
theorem j_powI (h0 : 0 ≤ b) (h1 : (Builtin.Int.intBits a : Int) * b ≤ 2 ^ 27) (h : ∀ t, R (.int (a ^ b.toNat) t) σ) : J C (binaryOp .Pow (.int a t) (.int b u)) σ R := j_mk fun s Q hs q => pow_int h0 h1 (q _ σ s.heap (s.toks + 1) hs .refl (h _))
theorem j_eqI (h : R (.bool (a == b)) σ) : J C (compareOp .Eq (.int a t) (.int b u)) σ R := j_mk fun s Q hs q => eq_int (q _ σ s.heap s.toks hs .refl h)
theorem j_neI (h : R (.bool (a != b)) σ) : J C (compareOp .NotEq (.int a t) (.int b u)) σ R := j_mk fun s Q hs q => ne_int (q _ σ s.heap s.toks hs .refl h)
theorem j_ltI (h : R (.bool (decide (a < b))) σ) : J C (compareOp .Lt (.int a t) (.int b u)) σ R := j_mk fun s Q hs q => lt_int (q _ σ s.heap s.toks hs .refl h)
theorem j_leI (h : R (.bool (decide (a ≤ b))) σ) : J C (compareOp .LtE (.int a t) (.int b u)) σ R := j_mk fun s Q hs q => le_int (q _ σ s.heap s.toks hs .refl h)
theorem j_gtI (h : R (.bool (decide (b < a))) σ) : J C (compareOp .Gt (.int a t) (.int b u)) σ R := j_mk fun s Q hs q => gt_int (q _ σ s.heap s.toks hs .refl h)
theorem j_geI (h : R (.bool (decide (b ≤ a))) σ) : J C (compareOp .GtE (.int a t) (.int b u)) σ R := j_mk fun s Q hs q => ge_int (q _ σ s.heap s.toks hs .refl h)
end
end
end Mine

namespace Mine

/-! lifting a rule of the library that speaks of a frame and a ledger: the ledger is all that stands -/
def allNews (C : Cx) (h : Heap) : List (Addr × Obj) :=
  (List.range h.objs.size).filterMap fun a => match h.get? a, C.base.get? a with
    | some o, none => if a = C.L then none else some (a, o)
    | _, _ => none
theorem mem_allNews {C : Cx} {h : Heap} {a : Addr} {o : Obj} : (a, o) ∈ allNews C h ↔ h.get? a = some o ∧ a ≠ C.L ∧ C.base.get? a = none := by
  unfold allNews
  rw [List.mem_filterMap]
  constructor
  · rintro ⟨b, _, e⟩
    split at e
    · split at e
      · cases e
      · simp only [Option.some.injEq, Prod.mk.injEq] at e
        obtain ⟨rfl, rfl⟩ := e
        exact ⟨by assumption, by assumption, by assumption⟩
    · cases e
  · rintro ⟨h1, h2, h3⟩
    refine ⟨a, List.mem_range.mpr (Heap.lt_size h1), ?_⟩
    rw [h1, h3]
    simp only [if_neg h2]
section
variable {C : Cx} {σ : Sg} {h h' : Heap}
theorem St.all (hs : St C σ h) : News C.base C.L h (allNews C h) := fun p hp => mem_allNews.mp hp
theorem keeps_all {m : Str → Option Value} {ex : List (Addr × Obj)} (F : Fr C.base C.L h' m) (N : News C.base C.L h' (ex ++ allNews C h)) (F0 : Fr C.base C.L h m) : ∀ b o, b ≠ C.L → h.get? b = some o → h'.get? b = some o := fun b o n e => by
  cases q : C.base.get? b with
  | some ob =>
    have h1 := F0.keep b ob q
    rw [e] at h1; cases h1
    exact F.keep b o q
  | none => exact (N _ (List.mem_append_right _ (mem_allNews.mpr ⟨e, n, q⟩))).1
theorem St.lift (hs : St C σ h) {ex : List (Addr × Obj)} (F : Fr C.base C.L h' (look C.ns σ.vs)) (N : News C.base C.L h' (ex ++ allNews C h)) : St C σ h' ∧ Fram C σ h σ h' := by
  have k := keeps_all F N hs.fr
  exact ⟨⟨F, fun a o e => ⟨k a o (hs.hp a o e).2.1 (hs.hp a o e).1, (hs.hp a o e).2⟩⟩, ⟨fun b o e => .inl (by rw [e]; exact Option.some_ne_none _), fun b o e _ l => k b o l e⟩⟩
end

/-! lists, tuples -/
abbrev tupOf (items : List Value) (n : Nat) : Obj := { cls := .type "tuple", data := .seq items.toArray n }
def PL (H : PH) (a : Addr) (items : List Value) : Prop := ∃ n, H a = some (listOf items.toArray n)
def IL (H : PH) (a : Addr) (items : List Value) : Prop := ∃ o, H a = some o ∧ o.cls = .type "list" ∧ ∃ n, o.data = .seq items.toArray n
def TL (H : PH) (a : Addr) (items : List Value) : Prop := ∃ n, H a = some (tupOf items n)
theorem PL.il {H : PH} {a : Addr} {items : List Value} (h : PL H a items) : IL H a items := let ⟨n, e⟩ := h; ⟨_, e, rfl, n, rfl⟩
theorem PL.le {H H' : PH} {a : Addr} {items : List Value} (h : PL H a items) (l : H.le H') : PL H' a items := let ⟨n, e⟩ := h; ⟨n, l _ _ e⟩
theorem IL.le {H H' : PH} {a : Addr} {items : List Value} (h : IL H a items) (l : H.le H') : IL H' a items := let ⟨o, e, r⟩ := h; ⟨o, l _ _ e, r⟩
theorem TL.le {H H' : PH} {a : Addr} {items : List Value} (h : TL H a items) (l : H.le H') : TL H' a items := let ⟨n, e⟩ := h; ⟨n, l _ _ e⟩
theorem PL.new {H : PH} {a : Addr} {items : List Value} {n : Nat} : PL (H.set a (listOf items.toArray n)) a items := ⟨n, PH.set_self⟩
theorem TL.new {H : PH} {a : Addr} {items : List Value} {n : Nat} : TL (H.set a (tupOf items n)) a items := ⟨n, PH.set_self⟩
section
variable {C : Cx} {σ : Sg} {n : Nat} {env : Env} {pos : Pos}
theorem St.isList {h : Heap} (hs : St C σ h) {a : Addr} {items : List Value} (hl : IL σ.H a items) : h.IsList a items.toArray := let ⟨o, e, r⟩ := hl; ⟨o, hs.get e, r⟩
theorem St.isTup {h : Heap} (hs : St C σ h) {a : Addr} {items : List Value} (hl : TL σ.H a items) : IsTup h a items.toArray := let ⟨k, e⟩ := hl; ⟨_, hs.get e, rfl, k, rfl⟩
theorem j_newList {us : List Value} {vs : List (Option Value)} {H : PH} {R : Value → Sg → Prop} (hz : us.length ≤ sizeLine) (h : ∀ a, H a = none → R (.ref a) ⟨vs, H.set a (listOf us.toArray 0)⟩) : J C (newList us) ⟨vs, H⟩ R :=
  j_mk fun s Q hs q => wpAny_newObj_type (q _ _ _ s.toks (hs.push (listOf us.toArray 0) rfl) (Fram.push hs _) (h _ hs.newAt)) (by show us.toArray.size ≤ sizeLine; rw [List.size_toArray]; exact hz)
theorem j_newTuple {us : List Value} {vs : List (Option Value)} {H : PH} {R : Value → Sg → Prop} (hz : us.length ≤ sizeLine) (h : ∀ a, H a = none → R (.ref a) ⟨vs, H.set a (tupOf us 0)⟩) : J C (newTuple us) ⟨vs, H⟩ R :=
  j_mk fun s Q hs q => wpAny_newObj_type (q _ _ _ s.toks (hs.push (tupOf us 0) rfl) (Fram.push hs _) (h _ hs.newAt)) (by show us.toArray.size ≤ sizeLine; rw [List.size_toArray]; exact hz)
theorem j_lenL {a : Addr} {items : List Value} {R : Value → Sg → Prop} (hl : IL σ.H a items) (hz : (items.length : Int) < 2 ^ 63) (h : ∀ t, R (.int items.length t) σ) : J C (PySem.call (.builtin "len") [.ref a]) σ R :=
  j_mk fun s Q hs q => len_list (hs.isList hl) (by rw [List.size_toArray]; exact hz) (by have := q _ σ s.heap (s.toks + 1 + 1) hs .refl (h (s.toks + 1)); rw [List.size_toArray]; exact this)
theorem j_lenT {a : Addr} {items : List Value} {R : Value → Sg → Prop} (hl : TL σ.H a items) (hz : (items.length : Int) < 2 ^ 63) (h : ∀ t, R (.int items.length t) σ) : J C (PySem.call (.builtin "len") [.ref a]) σ R :=
  j_mk fun s Q hs q => len_tuple (hs.isTup hl) (by rw [List.size_toArray]; exact hz) (by have := q _ σ s.heap (s.toks + 1 + 1) hs .refl (h (s.toks + 1)); rw [List.size_toArray]; exact this)
theorem j_itemL {a : Addr} {items : List Value} {k : Int} {t : Tok} {x : Value} {R : Value → Sg → Prop} (hl : IL σ.H a items) (h0 : 0 ≤ k) (h1 : k < 2 ^ 63) (hx : items[k.toNat]? = some x) (h : R x σ) : J C (getItem (.ref a) (.int k t)) σ R :=
  j_mk fun s Q hs q => wpAny_getItem_list (hs.isList hl) h0 h1 (by simpa using hx) (q _ σ s.heap s.toks hs .refl h)
theorem j_itemLneg {a : Addr} {items : List Value} {k : Int} {t : Tok} {x : Value} {R : Value → Sg → Prop} (hl : IL σ.H a items) (h0 : k < 0) (h1 : -(items.length : Int) ≤ k) (hb : -2 ^ 63 ≤ k) (hx : items[(k + items.length).toNat]? = some x) (h : R x σ) : J C (getItem (.ref a) (.int k t)) σ R :=
  j_mk fun s Q hs q => wpAny_getItem_list_neg (hs.isList hl) h0 (by rw [List.size_toArray]; exact h1) hb (by rw [List.size_toArray]; simpa using hx) (q _ σ s.heap s.toks hs .refl h)
theorem j_itemT {a : Addr} {items : List Value} {k : Int} {t : Tok} {j : Nat} {x : Value} {R : Value → Sg → Prop} (hl : TL σ.H a items) (h0 : -2 ^ 63 ≤ k) (h1 : k < 2 ^ 63) (hj : seqIndex? k items.length = some j) (hx : items[j]? = some x) (h : R x σ) : J C (getItem (.ref a) (.int k t)) σ R :=
  j_mk fun s Q hs q => getItem_tuple (hs.isTup hl) h0 h1 (by rw [List.size_toArray]; exact hj) (by simpa using hx) (q _ σ s.heap s.toks hs .refl h)
theorem j_setItemL {vs : List (Option Value)} {H : PH} {a : Addr} {items : List Value} {k : Int} {t : Tok} {v : Value} {R : Unit → Sg → Prop} (hl : IL H a items) (h0 : 0 ≤ k) (h1 : k < 2 ^ 63) (h2 : k < items.length)
    (h : ∀ H', IL H' a (items.set k.toNat v) → (∀ b, b ≠ a → H' b = H b) → (∀ b, H' b = none ↔ H b = none) → R () ⟨vs, H'⟩) : J C (setItem (.ref a) (.int k t) v) ⟨vs, H⟩ R :=
  j_mk fun s Q hs q => wpAny_setItem_list (hs.isList hl) h0 h1 (by rw [List.size_toArray]; exact h2) fun h' hl' hsb => by
    obtain ⟨o, e, r⟩ := hl
    obtain ⟨o', e', c', n', d'⟩ := hl'
    refine q () ⟨vs, H.set a o'⟩ h' s.toks (hs.upd e (fun b ob hb eb => (hsb.2 b hb).trans eb) e') (Fram.upd e fun b ob hb eb => (hsb.2 b hb).trans eb) (h _ ⟨o', PH.set_self, c', n', by rw [d', List.setIfInBounds_toArray]⟩ (fun b hb => PH.set_ne hb) fun b => ?_)
    by_cases hb : b = a
    · subst hb; rw [PH.set_self, e]; simp
    · rw [PH.set_ne hb]
theorem j_append {vs : List (Option Value)} {H : PH} {a : Addr} {items : List Value} {v : Value} {R : Value → Sg → Prop} (hl : PL H a items) (hz : items.length ≤ sizeLine) (h : ∀ k, R .none ⟨vs, H.set a (listOf (items ++ [v]).toArray k)⟩) : J C (PySem.call (.builtin "list.append") [.ref a, v]) ⟨vs, H⟩ R :=
  j_mk fun s Q hs q => by
    obtain ⟨k, e⟩ := hl
    refine append_at (hs.get e) (fun h' hsb e' => ?_) (by rw [List.size_toArray]; exact hz)
    rw [List.push_toArray] at e'
    exact q _ ⟨vs, _⟩ h' s.toks (hs.upd e (fun b ob hb eb => (hsb.2 b hb).trans eb) e') (Fram.upd e fun b ob hb eb => (hsb.2 b hb).trans eb) (h _)
theorem j_delItem {vs : List (Option Value)} {H : PH} {a : Addr} {items : List Value} {i : Int} {t : Tok} {j : Nat} {R : Unit → Sg → Prop} (hl : PL H a items) (hf : Builtin.List.listFitsIndex i = true) (hj : seqIndex? i items.length = some j) (hz : items.length ≤ sizeLine)
    (h : ∀ k, R () ⟨vs, H.set a (listOf (items.eraseIdx j).toArray k)⟩) : J C (delItem (.ref a) (.int i t)) ⟨vs, H⟩ R :=
  j_mk fun s Q hs q => by
    obtain ⟨k, e⟩ := hl
    refine wpAny_delItem_plain ⟨k, hs.get e⟩ hf (by rw [List.size_toArray]; exact hj) (fun h' hl' hsb => ?_) (by rw [List.size_toArray]; exact hz)
    obtain ⟨k', e'⟩ := hl'
    rw [List.eraseIdxIfInBounds_toArray] at e'
    exact q _ ⟨vs, _⟩ h' s.toks (hs.upd e (fun b ob hb eb => (hsb.2 b hb).trans eb) e') (Fram.upd e fun b ob hb eb => (hsb.2 b hb).trans eb) (h k')
theorem j_gmAppend {a : Addr} {items : List Value} {pl : Sem Bool} {p : Pos} {tr : List (Bool × Sem Value)} {kw : List (Option Str × Sem Value)} {R : Value → Sg → Prop} (hl : PL σ.H a items)
    (h : J C (callWith p (.builtin "list.append") [.ref a] tr kw) σ R) : J C (getMethod (.ref a) (Str.ofString "append") pl) σ fun fx σ₂ => J C (callWith p fx.1 fx.2 tr kw) σ₂ R :=
  j_mk fun s Q hs q => let ⟨k, e⟩ := hl; getMethod_list_append (hs.get e) rfl rfl (q (Value.builtin "list.append", [Value.ref a]) σ s.heap s.toks hs .refl h)
theorem j_maxL {a : Addr} {vs : List Value} {ns : List Int} {R : Value → Sg → Prop} (O : Ok C n) (hl : IL σ.H a vs) (hi : IntsAre vs ns) (hne : 0 < ns.length) (h : ∀ M t, M ∈ ns → (∀ x ∈ ns, x ≤ M) → R (.int M t) σ) : J C (PySem.call (.builtin "max") [.ref a]) σ R :=
  j_mk fun s Q hs q => kso_max hs.fr hs.all (hs.isList hl) hi hne O.hh fun h' M t tk F N hm hM => q _ σ h' tk (hs.lift (ex := []) F N).1 (hs.lift (ex := []) F N).2 (h M t hm hM)
theorem j_minL {a : Addr} {vs : List Value} {ns : List Int} {R : Value → Sg → Prop} (O : Ok C n) (hl : IL σ.H a vs) (hi : IntsAre vs ns) (hne : 0 < ns.length) (h : ∀ M t, M ∈ ns → (∀ x ∈ ns, M ≤ x) → R (.int M t) σ) : J C (PySem.call (.builtin "min") [.ref a]) σ R :=
  j_mk fun s Q hs q => kso_min hs.fr hs.all (hs.isList hl) hi hne O.hh fun h' M t tk F N hm hM => q _ σ h' tk (hs.lift (ex := []) F N).1 (hs.lift (ex := []) F N).2 (h M t hm hM)
theorem j_max2 {a b : Int} {t u : Tok} {R : Value → Sg → Prop} (O : Ok C n) (h : ∀ t, R (.int (max a b) t) σ) : J C (PySem.call (.builtin "max") [.int a t, .int b u]) σ R :=
  j_mk fun s Q hs q => max_two_N O.hh hs.fr hs.all fun h' tk F N => by
    have := q _ σ h' tk (hs.lift (ex := []) F N).1 (hs.lift (ex := []) F N).2 (h (if b > a then u else t))
    have e : max a b = if b > a then b else a := by split <;> omega
    rw [e] at this; exact this
theorem j_inL {a : Addr} {vs : List Value} {ns : List Int} {k : Int} {t : Tok} {R : Value → Sg → Prop} (hl : IL σ.H a vs) (hi : IntsAre vs ns) (h : R (.bool (ns.any (· == k))) σ) : J C (compareOp .In (.int k t) (.ref a)) σ R :=
  j_mk fun s Q hs q => in_list_ints (hs.isList hl) hi (q _ σ s.heap s.toks hs .refl h)
end
end Mine

namespace Mine
def PH.one (a : Addr) (o : Obj) : PH := fun b => if b = a then some o else none
def Disj (F H : PH) : Prop := ∀ b, F b ≠ none → H b = none
theorem PH.one_self {a : Addr} {o : Obj} : PH.one a o a = some o := by unfold PH.one; rw [if_pos rfl]
theorem PH.one_ne {a b : Addr} {o : Obj} (h : PH.one a o b ≠ none) : b = a := by
  unfold PH.one at h
  split at h
  · assumption
  · exact absurd rfl h
theorem disj_one {a : Addr} {o : Obj} {H : PH} (h : H a = none) : Disj (PH.one a o) H := fun b hb => PH.one_ne hb ▸ h
theorem disj_at {a : Addr} {o : Obj} {H : PH} (h : Disj (PH.one a o) H) : H a = none := h a (by rw [PH.one_self]; exact Option.some_ne_none _)
theorem set_one {a : Addr} {o : Obj} {H : PH} (h : H a = none) : H.set a o = H.both (PH.one a o) := by
  funext b
  unfold PH.set PH.both PH.one
  by_cases q : b = a
  · subst q; simp [h]
  · simp only [if_neg q]; cases H b <;> rfl
theorem both_set_one {a : Addr} {o o' : Obj} {H : PH} (h : H a = none) : (H.both (PH.one a o)).set a o' = H.both (PH.one a o') := by
  funext b
  unfold PH.set PH.both PH.one
  by_cases q : b = a
  · subst q; rw [h]; simp
  · simp only [if_neg q]
theorem le_both {H F : PH} : H.le (H.both F) := fun a o e => PH.both_left e

structure Iter (C : Cx) (it : Value) (N : Nat) (item : Nat → Value → Prop) (need : PH → Prop) (S : Nat → PH → Prop) : Prop where
  next : ∀ i vs H F, i < N → need H → Disj F H → S i F → J C (pyNext it) ⟨vs, H.both F⟩ fun r σ' => ∃ v F', r = some v ∧ item i v ∧ S (i + 1) F' ∧ Disj F' H ∧ σ' = ⟨vs, H.both F'⟩
  stop : ∀ vs H F, need H → Disj F H → S N F → J C (pyNext it) ⟨vs, H.both F⟩ fun r σ' => r = none ∧ σ' = ⟨vs, H⟩
  own : ∀ i vs H F target v, Disj F H → S i F → J C (letOwnedTupleGo target it v) ⟨vs, H.both F⟩ fun _ σ' => σ' = ⟨vs, H.both F⟩
  self : ∀ i vs H F, Disj F H → S i F → J C (pyIter it) ⟨vs, H.both F⟩ fun it' σ' => it' = it ∧ σ' = ⟨vs, H.both F⟩

def Go (R : Flow → Sg → Prop) (I : Sg → Prop) : Flow → Sg → Prop
  | .next, σ => I σ
  | .cont, σ => I σ
  | .brk, σ => R .next σ
  | .ret v, σ => R (.ret v) σ
theorem forAt_iter {C : Cx} {it : Value} {N : Nat} {item : Nat → Value → Prop} {need : PH → Prop} {S : Nat → PH → Prop} {target : Expr} {body : List Stmt} {env : Env} {R : Flow → Sg → Prop} {vs : List (Option Value)} {H F : PH}
    (T : Iter C it N item need S) (hd : Disj F H) (hS : S 0 F) (I : Nat → Sg → Prop) (h0 : I 0 ⟨vs, H⟩) (hneed : ∀ i σ, I i σ → need σ.H)
    (turn : ∀ i σ v, i < N → I i σ → item i v → J C (assign target env v) σ fun _ σ₁ => J C (execs body env) σ₁ (Go R (I (i + 1)))) (done : ∀ σ, I N σ → R .next σ) :
    ForAt C target body env R it ⟨vs, H.both F⟩ := by
  refine ⟨fun k σ => ∃ i H' F', σ.H = H'.both F' ∧ Disj F' H' ∧ S i F' ∧ I i ⟨σ.vs, H'⟩ ∧ i ≤ N ∧ k = N - i, N, ⟨0, H, F, rfl, hd, hS, h0, Nat.zero_le _, rfl⟩, ?_⟩
  rintro k ⟨vs', Hall⟩ ⟨i, H', F', e, hd', hS', hI, hi, rfl⟩
  dsimp only at e; subst e
  by_cases hlt : i < N
  · refine j_mono (T.next i vs' H' F' hlt (hneed _ _ hI) hd' hS') ?_
    rintro r σ' ⟨v, F₁, rfl, hv, hS₁, hd₁, rfl⟩
    refine j_mono (T.own _ vs' H' F₁ target v hd₁ hS₁) ?_
    rintro _ σ₂ rfl
    refine j_frame hd₁ ?_
    refine j_mono (turn i ⟨vs', H'⟩ v hlt hI hv) ?_
    intro _ σ₃ h₃ hd₃
    refine j_after ?_
    refine j_frame (fun b hb => hd₃ b hb) ?_
    refine j_mono h₃ ?_
    intro fl σ₄ h₄ hd₄
    cases fl with
    | next => exact ⟨_, PH.le_refl _, N - (i + 1), by omega, i + 1, σ₄.H, F₁, rfl, hd₄, hS₁, h₄, hlt, rfl⟩
    | cont => exact ⟨_, PH.le_refl _, N - (i + 1), by omega, i + 1, σ₄.H, F₁, rfl, hd₄, hS₁, h₄, hlt, rfl⟩
    | brk => exact ⟨σ₄.H, le_both, h₄⟩
    | ret v => exact ⟨σ₄.H, le_both, h₄⟩
  · have hN : i = N := by omega
    subst hN
    refine j_mono (T.stop vs' H' F' (hneed _ _ hI) hd' hS') ?_
    rintro r σ' ⟨rfl, rfl⟩
    exact done _ hI

section
variable {C : Cx} {σ : Sg} {n : Nat}
/-- what holds of the whole stands where the part is looked at -/
theorem j_stop {it : Addr} {vs : List (Option Value)} {H : PH} {o : Obj} {R : Option Value → Sg → Prop} (hz : H it = none) (hr : R none ⟨vs, H⟩)
    (h : ∀ (s : Shared) (Q : Option Value → Shared → Prop), St C ⟨vs, H.both (PH.one it o)⟩ s.heap → (∀ h', Heap.ExtBut it s.heap h' → Q none { s with heap := h' }) → wpAny (model PySem.Challenge.pw_sw0062_01 C.w) C.A (pyNext (.ref it)) Q (fun _ _ => False) s) :
    J C (pyNext (.ref it)) ⟨vs, H.both (PH.one it o)⟩ R := by
  refine j_mk fun s Q hs q => h s Q hs fun h' hk => ?_
  have hit : (H.both (PH.one it o)) it = some o := by rw [PH.both_right hz, PH.one_self]
  have nL : it ≠ C.L := (hs.hp it o hit).2.1
  have nb : C.base.get? it = none := (hs.hp it o hit).2.2
  have ne : ∀ b ob, H b = some ob → b ≠ it := fun b ob e q => by subst q; rw [hz] at e; cases e
  obtain ⟨oL, es, ep, hL, r⟩ := hs.fr.ns
  refine q none ⟨vs, H⟩ h' s.toks ⟨⟨⟨oL, es, ep, hk _ _ (Ne.symm nL) hL, r⟩, fun b ob e => hk b ob (fun q => by subst q; rw [nb] at e; cases e) (hs.fr.keep b ob e), hs.fr.above⟩, fun b ob e => ?_⟩
    ⟨fun b ob e => .inl (by show (H.both _) b ≠ none; rw [PH.both_left e]; exact Option.some_ne_none _), fun b ob e n _ => hk b ob (fun q => ?_) e⟩ hr
  · have hb := hs.hp b ob (PH.both_left e)
    exact ⟨hk b ob (ne b ob e) hb.1, hb.2⟩
  · subst q
    have : (H.both (PH.one b o)) b = none := n
    rw [hit] at this; cases this

def ListIt (it l : Addr) (i : Nat) (F : PH) : Prop := ∃ o : Obj, F = PH.one it o ∧ o.cls = .type "list_iterator" ∧ o.data = .fields #[.ref l, .int (i : Int) 0]
theorem iter_list {it l : Addr} {items : List Value} (O : Ok C n) : Iter C (.ref it) items.length (fun i v => items[i]? = some v) (fun H => IL H l items) (ListIt it l) where
  next := by
    rintro i vs H F hi hl hd ⟨o, rfl, oc, od⟩
    have hn := disj_at hd
    refine j_mk fun s Q hs q => ?_
    have hit : (H.both (PH.one it o)) it = some o := by rw [PH.both_right hn, PH.one_self]
    refine wpAny_pyNext_list_item (x := items[i]) ⟨o, hs.get hit, oc, od⟩ (hs.isList (hl.le le_both)) (by simp [hi]) fun h' hl' hsb => ?_
    obtain ⟨o', e', oc', od'⟩ := hl'
    have := q (some items[i]) ⟨vs, (H.both (PH.one it o)).set it o'⟩ h' s.toks (hs.upd hit (fun b ob hb eb => (hsb.2 b hb).trans eb) e') (Fram.upd hit fun b ob hb eb => (hsb.2 b hb).trans eb)
      ⟨items[i], PH.one it o', rfl, by simp [hi], ⟨o', rfl, oc', by simpa using od'⟩, disj_one hn, by rw [both_set_one hn]⟩
    exact this
  stop := by
    rintro vs H F hl hd ⟨o, rfl, oc, od⟩
    have hn := disj_at hd
    have hit : (H.both (PH.one it o)) it = some o := by rw [PH.both_right hn, PH.one_self]
    exact j_stop hn ⟨rfl, rfl⟩ fun s Q hs q => wpAny_pyNext_list_end O.hh ⟨o, hs.get hit, oc, od⟩ (hs.isList (hl.le le_both)) (by simp) q
  own := by
    rintro i vs H F target v hj ⟨o, rfl, oc, od⟩
    have hn := disj_at hj
    have hit : (H.both (PH.one it o)) it = some o := by rw [PH.both_right hn, PH.one_self]
    refine j_same (a := ()) rfl fun s Q hs q => ?_
    have go : wpAny (model PySem.Challenge.pw_sw0062_01 C.w) C.A (Pure.pure () : Sem Unit) Q (fun _ _ => False) s := wpAny_pure (q s.toks)
    unfold letOwnedTupleGo
    split
    · cases v with
      | ref a =>
        refine wpAny_bind (wpAny_load (hs.get hit) ?_)
        rw [oc, od]
        exact go
      | _ => exact go
    · cases v with
      | ref a =>
        refine wpAny_bind (wpAny_load (hs.get hit) ?_)
        rw [oc, od]
        exact go
      | _ => exact go
    · exact go
  self := by
    rintro i vs H F hj ⟨o, rfl, oc, od⟩
    have hn := disj_at hj
    have hit : (H.both (PH.one it o)) it = some o := by rw [PH.both_right hn, PH.one_self]
    exact j_same (a := Value.ref it) ⟨rfl, rfl⟩ fun s Q hs q => wpAny_pyIter_listiter ⟨o, hs.get hit, oc, od⟩ (q s.toks)
theorem j_iterList {vs : List (Option Value)} {H : PH} {l : Addr} {items : List Value} {R : Value → Sg → Prop} (O : Ok C n) (hl : IL H l items)
    (h : ∀ it F, Disj F H → ListIt it l 0 F → R (.ref it) ⟨vs, H.both F⟩) : J C (pyIter (.ref l)) ⟨vs, H⟩ R :=
  j_mk fun s Q hs q => by
    refine wpAny_pyIter_list (hs.isList hl) ?_
    have := q _ _ _ s.toks (hs.push { cls := .type "list_iterator", data := .fields #[.ref l, .int 0 0] } rfl) (Fram.push hs _) (set_one hs.newAt ▸ h s.heap.objs.size (PH.one s.heap.objs.size _) (disj_one hs.newAt) ⟨_, rfl, rfl, rfl⟩)
    exact this

def RangeIt (it : Addr) (a c : Int) (N : Nat) (i : Nat) (F : PH) : Prop := F = PH.one it { cls := .type "range_iterator", data := .fields #[rawInt (a + c * i), rawInt (N - i), rawInt c] }
theorem iter_range {it : Addr} {a c : Int} {N : Nat} (O : Ok C n) : Iter C (.ref it) N (fun i v => ∃ t, v = .int (a + c * i) t) (fun _ => True) (RangeIt it a c N) where
  next := by
    rintro i vs H F hi _ hd rfl
    have hn := disj_at hd
    refine j_mk fun s Q hs q => ?_
    have hit := PH.both_right (F := PH.one it { cls := .type "range_iterator", data := .fields #[rawInt (a + c * i), rawInt (N - i), rawInt c] }) hn
    rw [PH.one_self] at hit
    refine wpAny_pyNext_range_item (hs.get hit) (by omega) fun h' hl' hsb => ?_
    have e1 : a + c * (i : Int) + c = a + c * ((i + 1 : Nat) : Int) := by rw [Int.natCast_add, Int.mul_add]; simp; omega
    have e2 : (N : Int) - i - 1 = N - ((i + 1 : Nat) : Int) := by omega
    rw [e1, e2] at hl'
    exact q _ ⟨vs, (H.both (PH.one it _)).set it _⟩ h' (s.toks + 1) (hs.upd hit (fun b ob hb eb => (hsb.2 b hb).trans eb) hl') (Fram.upd hit fun b ob hb eb => (hsb.2 b hb).trans eb)
      ⟨_, PH.one it _, rfl, ⟨_, rfl⟩, rfl, disj_one hn, by rw [both_set_one hn]⟩
  stop := by
    rintro vs H F _ hd rfl
    have hn := disj_at hd
    have hit := PH.both_right (F := PH.one it { cls := .type "range_iterator", data := .fields #[rawInt (a + c * N), rawInt (N - N), rawInt c] }) hn
    rw [PH.one_self] at hit
    exact j_stop hn ⟨rfl, rfl⟩ fun s Q hs q => wpAny_pyNext_range_end O.hh (hs.get hit) (by omega) q
  own := by
    rintro i vs H F target v hj rfl
    have hn := disj_at hj
    have hit := PH.both_right (F := PH.one it { cls := .type "range_iterator", data := .fields #[rawInt (a + c * i), rawInt (N - i), rawInt c] }) hn
    rw [PH.one_self] at hit
    refine j_same (a := ()) rfl fun s Q hs q => ?_
    have go : wpAny (model PySem.Challenge.pw_sw0062_01 C.w) C.A (Pure.pure () : Sem Unit) Q (fun _ _ => False) s := wpAny_pure (q s.toks)
    unfold letOwnedTupleGo
    split
    · cases v with
      | ref a => exact wpAny_bind (wpAny_load (hs.get hit) go)
      | _ => exact go
    · cases v with
      | ref a => exact wpAny_bind (wpAny_load (hs.get hit) go)
      | _ => exact go
    · exact go
  self := by
    rintro i vs H F hj rfl
    have hn := disj_at hj
    have hit := PH.both_right (F := PH.one it { cls := .type "range_iterator", data := .fields #[rawInt (a + c * i), rawInt (N - i), rawInt c] }) hn
    rw [PH.one_self] at hit
    exact j_same (a := Value.ref it) ⟨rfl, rfl⟩ fun s Q hs q => wpAny_pyIter_rangeiter (hs.get hit) (q s.toks)
def rangeOf (a b c : Int) (t u v : Tok) : Obj := { cls := .type "range", data := .fields #[.int a t, .int b u, .int c v] }
theorem j_range1 {vs : List (Option Value)} {H : PH} {b : Int} {u : Tok} {R : Value → Sg → Prop} (h : ∀ r t u v, H r = none → R (.ref r) ⟨vs, H.set r (rangeOf 0 b 1 t u v)⟩) : J C (PySem.call (.type "range") [.int b u]) ⟨vs, H⟩ R :=
  j_mk fun s Q hs q => call_range_1 (q _ _ _ _ (hs.push _ rfl) (Fram.push hs _) (h _ _ _ _ hs.newAt))
theorem j_range2 {vs : List (Option Value)} {H : PH} {a b : Int} {t u : Tok} {R : Value → Sg → Prop} (h : ∀ r t u v, H r = none → R (.ref r) ⟨vs, H.set r (rangeOf a b 1 t u v)⟩) : J C (PySem.call (.type "range") [.int a t, .int b u]) ⟨vs, H⟩ R :=
  j_mk fun s Q hs q => call_range_2 (q _ _ _ _ (hs.push _ rfl) (Fram.push hs _) (h _ _ _ _ hs.newAt))
theorem j_range3 {vs : List (Option Value)} {H : PH} {a b c : Int} {t u v : Tok} {R : Value → Sg → Prop} (hc : c ≠ 0) (hp : Builtin.divisionGoesByPylong (b - a) c = false) (h : ∀ r t u v, H r = none → R (.ref r) ⟨vs, H.set r (rangeOf a b c t u v)⟩) : J C (PySem.call (.type "range") [.int a t, .int b u, .int c v]) ⟨vs, H⟩ R :=
  j_mk fun s Q hs q => call_range_3 hc (q _ _ _ _ (hs.push _ rfl) (Fram.push hs _) (h _ _ _ _ hs.newAt)) (.inl hp)
theorem j_iterRange {vs : List (Option Value)} {H : PH} {r : Addr} {a b c : Int} {t u v : Tok} {N : Nat} {R : Value → Sg → Prop} (O : Ok C n) (hr : H r = some (rangeOf a b c t u v)) (hsm : Builtin.Range.small a b c = true) (hN : Builtin.Range.rangeSize a b c = (N : Int))
    (h : ∀ it F, Disj F H → RangeIt it a c N 0 F → R (.ref it) ⟨vs, H.both F⟩) : J C (pyIter (.ref r)) ⟨vs, H⟩ R :=
  j_mk fun s Q hs q => by
    refine wpAny_pyIter_range (hs.get hr) hsm ?_
    have := q _ _ _ s.toks (hs.push { cls := .type "range_iterator", data := .fields #[rawInt a, rawInt (Builtin.Range.rangeSize a b c), rawInt c] } rfl) (Fram.push hs _)
      (set_one hs.newAt ▸ h s.heap.objs.size (PH.one s.heap.objs.size _) (disj_one hs.newAt) (by unfold RangeIt; rw [hN]; simp))
    exact this
end
end Mine

namespace Mine
section
variable {C : Cx} {σ : Sg} {n : Nat} {env : Env} {pos : Pos}
theorem j_callWith0 {f : Value} {args : List Expr} {R : Value → Sg → Prop} (O : Ok C n) (hk : Keeps1 C f) (hp : (backTo pos (starEach args env)).any (·.1) = false) (h : J C (spliced (backTo pos (starEach args env))) σ fun vs σ₁ => J C (PySem.call f vs) σ₁ R) :
    J C (callWith pos f [] (backTo pos (starEach args env)) []) σ R := j_callWith O hk h hp
theorem j_callWith1 {f x : Value} {args : List Expr} {R : Value → Sg → Prop} (O : Ok C n) (hk : Keeps1 C f) (hp : (backTo pos (starEach args env)).any (·.1) = false) (h : J C (spliced (backTo pos (starEach args env))) σ fun vs σ₁ => J C (PySem.call f (x :: vs)) σ₁ R) :
    J C (callWith pos f [x] (backTo pos (starEach args env)) []) σ R := j_callWith O hk h hp
theorem j_neLI {a b : Addr} {xs ys : List Value} {ns ms : List Int} {R : Value → Sg → Prop} (O : Ok C n) (ha : IL σ.H a xs) (hb : IL σ.H b ys) (hi : IntsAre xs ns) (hj : IntsAre ys ms) (h : R (.bool (!decide (ns = ms))) σ) : J C (compareOp .NotEq (.ref a) (.ref b)) σ R :=
  j_mk fun s Q hs q => ke_ne_ints (hs.isList ha) (hs.isList hb) hi hj (by have := O.units; omega) (q _ σ s.heap s.toks hs .refl h)
theorem j_orCons {x : Expr} {rest : List Expr} {R : Bool → Sg → Prop} (h : J C (isTrue x env (eval x env)) σ fun b σ₁ => (b = true → R true σ₁) ∧ (b = false → J C (allTrue .Or rest env) σ₁ R)) : J C (allTrue .Or (x :: rest) env) σ R := by
  show J C (do match BoolOp.Or, ← isTrue x env (eval x env) with | .And, false => pure false | .Or, true => pure true | _, _ => allTrue .Or rest env) σ R
  refine j_bind (j_mono h fun b σ₁ h₁ => ?_)
  cases b with
  | true => exact j_ret (h₁.1 rfl)
  | false => exact h₁.2 rfl
theorem both_t {P Q : Prop} (h : P) : (true = true → P) ∧ (true = false → Q) := ⟨fun _ => h, (fun e => nomatch e)⟩
theorem both_f {P Q : Prop} (h : Q) : (false = true → P) ∧ (false = false → Q) := ⟨(fun e => nomatch e), fun _ => h⟩
theorem j_orNil {R : Bool → Sg → Prop} (h : R false σ) : J C (allTrue .Or [] env) σ R := j_ret h
end
end Mine

namespace Mine
example : True := by
  k_with "j at" => (first | (with_reducible exact At.head) | ((with_reducible apply At.tail); walk_at "j at"))
  k_with "j put" => (first | (with_reducible exact Put.head) | ((with_reducible apply Put.tail); walk_at "j put"))
  k_with "j name" => ((with_reducible show J _ (eval (PySem.Expr.Name _ _) _) _ _); first
      | refine j_local (by assumption) (by walk_at "j at") ?_ (by rfl) (by rfl) (by rfl) (by decide)
      | refine j_global (by assumption) (by k_is) ?_ (by rfl) (by rfl) (by rfl) (by decide)
      | refine j_boot (by assumption) (by k_is) (by boot_fast) (by decide) ?_ (by rfl) (by rfl) (by rfl) (by rfl) (by decide))
  k_with "j" => (first
      | walk_at "j name"
      | (with_reducible refine j_binop ?_)
      | ((with_reducible refine j_int ?_); intro _)
      | ((with_reducible refine j_str ?_); intro _)
      | (with_reducible refine j_bool ?_)
      | (with_reducible refine j_callName ?_)
      | ((with_reducible show J _ (callWith _ _ [] _ _) _ _); refine j_callWith0 (by assumption) (by first | exact keeps1_builtin | exact keeps1_type | exact keeps1_K (by k_is)) (by rfl) ?_)
      | ((with_reducible show J _ (callWith _ _ [_] _ _) _ _); refine j_callWith1 (by assumption) (by first | exact keeps1_builtin | exact keeps1_type | exact keeps1_K (by k_is)) (by rfl) ?_)
      | (with_reducible refine j_spnil ?_)
      | ((with_reducible show J _ (spliced (backTo _ (starEach (_ :: _) _))) _ _); refine j_spcons ?_ (by rfl))
      | ((with_reducible show J _ (isTrue (PySem.Expr.Compare _ _ _ _) _ _) _ _); refine j_isTrueCmp ?_ (by with_unfolding_all rfl))
      | ((with_reducible show J _ (eval (PySem.Expr.Compare _ _ _ _) _) _ _); refine j_compare ?_ (by with_unfolding_all rfl))
      | (with_reducible refine j_truthyBool ?_)
      | (with_reducible refine j_isTrueNot ?_)
      | (with_reducible refine j_isTrueBool ?_)
      | (with_reducible refine both_t ?_)
      | (with_reducible refine both_f ?_)
      | (with_reducible refine j_andCons ?_)
      | (with_reducible refine j_andNil ?_)
      | (with_reducible refine j_orCons ?_)
      | (with_reducible refine j_orNil ?_)
      | ((with_reducible show J _ (isTrue _ _ _) _ _); refine j_isTrueVal ?_ (by rfl))
      | (with_reducible refine j_last ?_)
      | (with_reducible refine j_cons ?_)
      | (with_reducible refine j_nil ?_)
      | (with_reducible refine j_return ?_)
      | ((with_reducible show J _ (exec (PySem.Stmt.Assign [PySem.Expr.Name _ _] _ _) _) _ _); refine j_set ?_ (by rfl))
      | ((with_reducible show J _ (storeName _ _ _) _ _); refine j_store (by assumption) (by walk_at "j put") ?_ (by rfl) (by rfl) (by rfl))
      | (with_reducible refine j_aug ?_)
      | (with_reducible refine j_assignName ?_)
      | ((with_reducible show J _ (loadName _ _) _ _); refine j_localLoad (by assumption) (by walk_at "j at") ?_ (by rfl) (by rfl) (by rfl))
      | (with_reducible refine seq_next ?_)
      | (with_reducible refine seq_ret ?_)
      | (with_reducible refine seq_cont ?_)
      | (with_reducible refine seq_brk ?_)
      | (with_reducible refine j_unop ?_)
      | (with_reducible refine j_ifexp ?_)
      | (with_reducible refine j_tuple ?_)
      | (with_reducible refine j_list ?_)
      | ((with_reducible refine j_addI ?_); intro _)
      | ((with_reducible refine j_subI ?_); intro _)
      | ((with_reducible refine j_andI ?_); intro _)
      | ((with_reducible refine j_orI ?_); intro _)
      | ((with_reducible refine j_invI ?_); intro _)
      | ((with_reducible refine j_negI ?_); intro _)
      | (with_reducible refine j_eqI ?_)
      | (with_reducible refine j_neI ?_)
      | (with_reducible refine j_ltI ?_)
      | (with_reducible refine j_leI ?_)
      | (with_reducible refine j_gtI ?_)
      | (with_reducible refine j_geI ?_)
      | (with_reducible refine j_break ?_)
      | (with_reducible refine j_continue ?_)
      | (with_reducible refine j_pass ?_)
      | ((with_reducible show J _ (exec (PySem.Stmt.For _ _ _ _ _) _) _ _); refine j_for ?_ (by intro _; rfl)))
  k_with "js" => (repeat (first | walk_at "j" | (with_reducible refine j_if ?_)))
  k_with "jx" => (repeat (walk_at "j"))
  trivial
end Mine
namespace Mine
def compTests (ifs : List Expr) (env : Env) : Sem Bool := forIn ifs true fun c r => if r = true then do let ok ← isTrue c env (eval c env); pure (ForInStep.yield ok) else pure (ForInStep.yield r)
def nones (ns : List Str) : List (Option Value) := ns.map fun _ => none
theorem look_nones (ns : List Str) : look ns (nones ns) = fun _ => none := by
  funext y
  induction ns with
  | nil => rfl
  | cons x r ih =>
    show (if y = x then none else look r (nones r) y) = none
    rw [ih]; split <;> rfl
/-- the loop of a comprehension, its iterator and its list laid -/
def CompAt (C : Cx) (n : Nat) (env : Env) (scope : Scope) (cl : List (Str × Addr)) (ns : List Str) (target elt : Expr) (ifs : List Expr) (it : Value) (σ : Sg) (R : Value → Sg → Prop) : Prop :=
  ∀ base' L' D, Ok ⟨C.w, C.A, base', L', ns⟩ n → σ.H D = none →
    J ⟨C.w, C.A, base', L', ns⟩ (pyIter it) ⟨nones ns, σ.H.set D (listOf #[] 0)⟩ (fun it' σ' => it' = it ∧ σ' = ⟨nones ns, σ.H.set D (listOf #[] 0)⟩) ∧
    ∃ (I : Nat → Sg → Prop) (k : Nat), I k ⟨nones ns, σ.H.set D (listOf #[] 0)⟩ ∧ ∀ k σ₁, I k σ₁ → J ⟨C.w, C.A, base', L', ns⟩ (pyNext it) σ₁ fun r σ₂ => match r with
      | none => R (.ref D) ⟨σ.vs, σ₂.H⟩
      | some v => J ⟨C.w, C.A, base', L', ns⟩ (letOwnedTupleGo target it v) σ₂ fun _ σ₃ => J ⟨C.w, C.A, base', L', ns⟩ (assign target (compEnvC scope cl L' env) v) σ₃ fun _ σ₄ => J ⟨C.w, C.A, base', L', ns⟩ (compTests ifs (compEnvC scope cl L' env)) σ₄ fun ok σ₅ =>
        (ok = true → J ⟨C.w, C.A, base', L', ns⟩ (eval elt (compEnvC scope cl L' env)) σ₅ fun x σ₆ => J ⟨C.w, C.A, base', L', ns⟩ (PySem.call (.builtin "list.append") [.ref D, x]) σ₆ fun _ σ₇ => ∃ m, m < k ∧ I m σ₇) ∧ (ok = false → ∃ m, m < k ∧ I m σ₅)

section
variable {prog : Program} {w : World} {A : Around} {R : Result → Shared → Prop} {s : Shared}
theorem compLoop_any {elt target iter : Expr} {ifs : List Expr} {scope : Scope} {pos : Pos} {it acc : Value} {env : Env} (I : Nat → Shared → Prop)
    (turn : ∀ n s, I n s → wpAny (model prog w) A (pyNext it) (fun r s₁ => match r with
      | none => R (.ok .next) s₁
      | some v => wpAny (model prog w) A (letOwnedTupleGo target it v) (fun _ s₁' => wpAny (model prog w) A (assign target env v) (fun _ s₂ => wpAny (model prog w) A (compTests ifs env) (fun ok s₃ =>
            if ok = true then wpAny (model prog w) A (eval elt env) (fun x s₄ => wpAny (model prog w) A (PySem.call (.builtin "list.append") [acc, x]) (fun _ s₅ => ∃ m, m < n ∧ I m s₅) (fun _ _ => False) s₄) (fun _ _ => False) s₃
            else ∃ m, m < n ∧ I m s₃) (fun _ _ => False) s₂) (fun _ _ => False) s₁') (fun _ _ => False) s₁) (fun _ _ => False) s)
    (n : Nat) (h : I n s) : codeAny (model prog w) A (.compLoop (.ListComp elt [⟨target, iter, ifs, 0⟩] scope pos) 0 it acc env) R s := by
  refine codeAny_loop rfl I (fun n s hI => ?_) n h
  show wpAny _ A ((compTurn (.ListComp elt [⟨target, iter, ifs, 0⟩] scope pos) 0 it acc env).onRaise (fun x => do noteFrame x env; theTreesLotGoes x)) _ _ s
  refine wpAny_noted ?_
  rw [compTurn_list]
  refine wpAny_bind (wpAny_standAt (wpAny_bind (wpAny_mono (turn n s hI) (fun r s₁ h₁ => ?_) fun _ _ h' => h'.elim)))
  cases r with
  | none => exact wpAny_pure h₁
  | some v =>
    refine wpAny_bind (wpAny_mono h₁ (fun _ s₁' h₁' => ?_) fun _ _ h' => h'.elim)
    refine wpAny_bind (wpAny_mono h₁' (fun _ s₂ h₂ => wpAny_bind (wpAny_mono h₂ (fun ok s₃ h₃ => ?_) fun _ _ h' => h'.elim)) fun _ _ h' => h'.elim)
    cases ok with
    | false => exact wpAny_pure ⟨rfl, h₃⟩
    | true =>
      exact wpAny_bind (wpAny_bind (wpAny_mono h₃ (fun x s₄ h₄ => wpAny_bind (wpAny_mono h₄ (fun _ s₅ h₅ => wpAny_pure (wpAny_pure ⟨rfl, h₅⟩)) fun _ _ h' => h'.elim)) fun _ _ h' => h'.elim))
end

section
variable {C : Cx} {σ : Sg} {n : Nat} {env : Env} {pos : Pos} {elt target iter : Expr} {ifs : List Expr} {scope : Scope} {cl : List (Str × Addr)} {ns : List Str}
theorem St.but {h h' : Heap} {a : Addr} (hs : St C σ h) (hs' : Heap.SameBut a h h') (nL : C.L ≠ a) (nb : C.base.get? a = none) (nH : σ.H a = none) : St C σ h' := by
  obtain ⟨oL, es, ep, hL, r⟩ := hs.fr.ns
  refine ⟨⟨⟨oL, es, ep, (hs'.2 _ nL).trans hL, r⟩, fun b o e => (hs'.2 b (fun q => ?_)).trans (hs.fr.keep b o e), hs.fr.above⟩, fun b o e => ⟨(hs'.2 b (fun q => ?_)).trans (hs.hp b o e).1, (hs.hp b o e).2⟩⟩
  · subst q; rw [nb] at e; cases e
  · subst q; rw [nH] at e; cases e

theorem Fram.but {h h' h'' : Heap} {σ' : Sg} {a : Addr} (f : Fram C σ h σ' h') (hs' : Heap.SameBut a h' h'') (nl : ∀ o, h.get? a = some o → σ.H a = none → a ≠ C.L → False) : Fram C σ h σ' h'' :=
  ⟨f.dom, fun b o e nn l => (hs'.2 b (fun q => by subst q; exact nl o e nn l)).trans (f.kept b o e nn l)⟩
/-- the block of a comprehension: R is asked of what stands when the loop has ended, ahead of what `use` does -/
theorem comp_block {use : Option (Value → Sem Unit)} {it : Value} {s₂ : Shared} {R : Value → Sg → Prop} {Q : Value → Shared → Prop} (O : Ok C n) (hcell : ∀ y ∈ scope.names, y.2 ≠ .cell) (hkind : scope.kind = .function) (hnd : ns.Nodup)
    (hs : St C σ s₂.heap) (h : CompAt C n env scope cl ns target elt ifs it σ R)
    (post : ∀ (D L' : Addr) (σ' : Sg) (h' : Heap) (tk' : Nat) (m : Str → Option Value), St C σ' h' → Fram C σ s₂.heap σ' h' → h'.Ns L' m → C.L ≠ L' → C.base.get? L' = none → σ'.H L' = none → s₂.heap.get? L' = none → R (.ref D) σ' →
      compPost (model PySem.Challenge.pw_sw0062_01 C.w) C.A (fun _ _ => False) use Q (.ref D) L' (.ok .next) { s₂ with heap := h', toks := tk' }) :
    wpAny (model PySem.Challenge.pw_sw0062_01 C.w) C.A (newList []) (fun acc s₃ => wpAny (model PySem.Challenge.pw_sw0062_01 C.w) C.A (newFunctionEnv scope env.globals cl [] env.qual none .none (some env)) (fun cenv s₄ =>
      codeAny (model PySem.Challenge.pw_sw0062_01 C.w) C.A (.compStart (.ListComp elt [⟨target, iter, ifs, 0⟩] scope pos) 0 it acc { cenv with scope := relabel scope env }) (compPost (model PySem.Challenge.pw_sw0062_01 C.w) C.A (fun _ _ => False) use Q acc cenv.locals) s₄) (fun _ _ => False) s₃) (fun _ _ => False) s₂ := by
  refine wpAny_newObj_type (wpAny_newFunctionEnv hcell (by intro y hy; simp at hy) (fun h₁ hns₁ hsb₁ => ?_) hkind)
  dsimp only at hns₁ hsb₁ ⊢
  have hD : σ.H s₂.heap.objs.size = none := hs.newAt
  generalize hH2 : s₂.heap.push { cls := .type "list", dict := none, data := .seq ([] : List Value).toArray } = H2 at hns₁ hsb₁ ⊢
  have hC : H2.objs.size = s₂.heap.objs.size + 1 := by rw [← hH2, Heap.size_push]
  have live : ∀ b o, s₂.heap.get? b = some o → b < s₂.heap.objs.size := fun b o e => Heap.lt_size e
  have ne1 : ∀ b o, s₂.heap.get? b = some o → b ≠ H2.objs.size := fun b o e => by rw [hC]; exact Nat.ne_of_lt (Nat.lt_succ_of_lt (live b o e))
  have ne0 : ∀ b o, s₂.heap.get? b = some o → b ≠ s₂.heap.objs.size := fun b o e => Nat.ne_of_lt (live b o e)
  have neD : s₂.heap.objs.size ≠ H2.objs.size := by rw [hC]; exact Nat.ne_of_lt (Nat.lt_succ_self _)
  have old : ∀ b o, s₂.heap.get? b = some o → h₁.get? b = some o := fun b o e => hsb₁.extBut b o (ne1 b o e) (Heap.get?_push_of_some _ (hH2 ▸ Heap.get?_push_of_some _ e))
  have hDh : h₁.get? s₂.heap.objs.size = some (listOf #[] 0) := hsb₁.extBut _ _ neD (Heap.get?_push_of_some _ (hH2 ▸ Heap.get?_push_size _ rfl))
  have nlive : ∀ a, s₂.heap.objs.size ≤ a → s₂.heap.get? a = none := fun a ha => by
    cases e : s₂.heap.get? a with
    | none => rfl
    | some o => exact absurd (live a o e) (Nat.not_lt.mpr ha)
  have bnone : ∀ a, s₂.heap.objs.size ≤ a → C.base.get? a = none := fun a ha => by
    cases e : C.base.get? a with
    | none => rfl
    | some o => have := hs.fr.keep a o e; rw [nlive a ha] at this; cases this
  have O' : Ok ⟨C.w, C.A, hidden σ.H s₂.heap, H2.objs.size, ns⟩ n := by
    obtain ⟨mean, mg, mb, T⟩ := O.T
    exact ⟨O.X.keeps hs.stays, ⟨mean, mg, mb, T.keeps hs.stays⟩, O.hh, O.depth, O.units, hnd⟩
  have hs' : St ⟨C.w, C.A, hidden σ.H s₂.heap, H2.objs.size, ns⟩ ⟨nones ns, σ.H.set s₂.heap.objs.size (listOf #[] 0)⟩ h₁ := by
    refine ⟨⟨by show h₁.Ns H2.objs.size (look ns (nones ns)); rw [look_nones]; exact hns₁, fun b o e => old b o (of_hidden e), by show (hidden σ.H s₂.heap).objs.size ≤ H2.objs.size; rw [hidden_size, hC]; omega⟩, fun a o e => ?_⟩
    by_cases q : a = s₂.heap.objs.size
    · subst q
      change (σ.H.set _ _) _ = _ at e
      rw [PH.set_self] at e; cases e
      refine ⟨hDh, neD, ?_⟩
      cases e2 : (hidden σ.H s₂.heap).get? s₂.heap.objs.size with
      | none => rfl
      | some ob => have := of_hidden e2; rw [nlive _ (Nat.le_refl _)] at this; cases this
    · change (σ.H.set _ _) _ = _ at e
      rw [PH.set_ne q] at e
      have g := hs.get e
      exact ⟨old a o g, ne1 a o g, hidden_none g e⟩
  obtain ⟨hself, I, k, hI, turn⟩ := h (hidden σ.H s₂.heap) H2.objs.size s₂.heap.objs.size O' hD
  have loop : ∀ g tk, St ⟨C.w, C.A, hidden σ.H s₂.heap, H2.objs.size, ns⟩ ⟨nones ns, σ.H.set s₂.heap.objs.size (listOf #[] 0)⟩ g → Fram ⟨C.w, C.A, hidden σ.H s₂.heap, H2.objs.size, ns⟩ ⟨nones ns, σ.H.set s₂.heap.objs.size (listOf #[] 0)⟩ h₁ ⟨nones ns, σ.H.set s₂.heap.objs.size (listOf #[] 0)⟩ g → codeAny (model PySem.Challenge.pw_sw0062_01 C.w) C.A (.compLoop (.ListComp elt [⟨target, iter, ifs, 0⟩] scope pos) 0 it (.ref s₂.heap.objs.size) (compEnvC scope cl H2.objs.size env))
      (compPost (model PySem.Challenge.pw_sw0062_01 C.w) C.A (fun _ _ => False) use Q (.ref s₂.heap.objs.size) H2.objs.size) { s₂ with heap := g, toks := tk } := by
    intro g tk hg fg
    refine compLoop_any (fun k s' => ∃ σ' h' tk', s' = { s₂ with heap := h', toks := tk' } ∧ St ⟨C.w, C.A, hidden σ.H s₂.heap, H2.objs.size, ns⟩ σ' h' ∧ Fram ⟨C.w, C.A, hidden σ.H s₂.heap, H2.objs.size, ns⟩ ⟨nones ns, σ.H.set s₂.heap.objs.size (listOf #[] 0)⟩ h₁ σ' h' ∧ I k σ') (fun k s' hk => ?_) k
      ⟨_, g, tk, rfl, hg, fg, hI⟩
    obtain ⟨σ₁, g₁, t₁, rfl, S₁, f₁, i₁⟩ := hk
    refine j_use (turn k σ₁ i₁) (s := { s₂ with heap := g₁, toks := t₁ }) S₁ fun r σ₂ g₂ t₂ S₂ f₂ r₂ => ?_
    have f2 := f₁.trans S₁ f₂
    cases r with
    | none =>
      have nH : σ₂.H H2.objs.size = none := by
        cases q : σ₂.H H2.objs.size with
        | none => rfl
        | some o => exact absurd rfl (S₂.hp _ _ q).2.1
      refine post _ _ ⟨σ.vs, σ₂.H⟩ g₂ t₂ _ (hs.back rfl S₂) ⟨fun b o e => ?_, fun b o e nn l => f2.kept b o (old b o e) ?_ ?_⟩ S₂.fr.ns ?_ (bnone _ (by rw [hC]; omega)) nH (nlive _ (by rw [hC]; omega)) r₂
      · rcases f2.dom b o e with h1 | h1
        · by_cases q : b = s₂.heap.objs.size
          · exact .inr (q ▸ nlive _ (Nat.le_refl _))
          · have h1' : (σ.H.set s₂.heap.objs.size (listOf #[] 0)) b ≠ none := h1
            rw [PH.set_ne q] at h1'
            exact .inl h1'
        · refine .inr ?_
          cases e2 : s₂.heap.get? b with
          | none => rfl
          | some ob => exact absurd h1 (by rw [old b ob e2]; exact Option.some_ne_none _)
      · show (σ.H.set _ _) b = none
        rw [PH.set_ne (ne0 b o e)]; exact nn
      · exact ne1 b o e
      · exact (by obtain ⟨oL, _, _, hL, _⟩ := hs.fr.ns; exact ne1 _ _ hL)
    | some v =>
      refine j_use r₂ (s := { s₂ with heap := g₂, toks := t₂ }) S₂ fun _ σ₃ g₃ t₃ S₃ f₃ r₃ => j_use r₃ (s := { s₂ with heap := g₃, toks := t₃ }) S₃ fun _ σ₄ g₄ t₄ S₄ f₄ r₄ =>
        j_use r₄ (s := { s₂ with heap := g₄, toks := t₄ }) S₄ fun ok σ₅ g₅ t₅ S₅ f₅ r₅ => ?_
      have f5 := f2.trans S₂ (f₃.trans S₃ (f₄.trans S₄ f₅))
      cases ok with
      | false =>
        rw [if_neg (by decide)]
        obtain ⟨m, hm, im⟩ := r₅.2 rfl
        exact ⟨m, hm, σ₅, g₅, t₅, rfl, S₅, f5, im⟩
      | true =>
        rw [if_pos rfl]
        refine j_use (r₅.1 rfl) (s := { s₂ with heap := g₅, toks := t₅ }) S₅ fun x σ₆ g₆ t₆ S₆ f₆ r₆ => j_use r₆ (s := { s₂ with heap := g₆, toks := t₆ }) S₆ fun _ σ₇ g₇ t₇ S₇ f₇ r₇ => ?_
        obtain ⟨m, hm, im⟩ := r₇
        exact ⟨m, hm, σ₇, g₇, t₇, rfl, S₇, f5.trans S₅ (f₆.trans S₆ f₇), im⟩
  refine codeAny_compStart_list (loop h₁ _ hs' .refl) ?_
  refine j_use hself (s := { s₂ with heap := h₁, toks := _ }) hs' fun it' σ' h' tk' S' f' e => ?_
  obtain ⟨rfl, rfl⟩ := e
  exact loop h' tk' S' f'

theorem eval_LC (elt : Expr) (gens : List Comprehension) (scope : Scope) (pos : Pos) (env : Env) : eval (.ListComp elt gens scope pos) env = comprehension (.ListComp elt gens scope pos) scope env (firstIterPos gens pos) (newList []) (firstAsync gens) (firstIter gens env) := rfl
theorem j_comp {R : Value → Sg → Prop} (O : Ok C n) (hclos : closureFor scope env = Pure.pure cl) (hcell : ∀ y ∈ scope.names, y.2 ≠ .cell) (hkind : scope.kind = .function) (hnames : ∀ y ∈ scope.names, y.2 = .local → scope.names.lookup y.1 = some .local) (hnd : ns.Nodup)
    (hs : ∀ x, foldedSetIterable iter env x = Pure.pure x) (h : J C (eval iter env) σ fun x σ₁ => J C (pyIter x) σ₁ fun it σ₂ => CompAt C n env scope cl ns target elt ifs it σ₂ R) : J C (eval (.ListComp elt [⟨target, iter, ifs, 0⟩] scope pos) env) σ R := by
  refine j_mk fun s Q hs0 q => ?_
  rw [eval_LC]
  refine wpAny_comprehension_free (use := none) rfl hs hclos hkind hnames (j_use h hs0 fun x σa ha ta sa fa ra => j_use ra (s := { s with heap := ha, toks := ta }) sa fun it σ₀ h₀ t₀ s₀ f₀ r₀ => ?_)
  refine comp_block (s₂ := { s with heap := h₀, toks := t₀ }) O hcell hkind hnd s₀ r₀ fun D L' σ' h' tk' m S' f' hn nL nb nH nl hr => ?_
  exact ⟨m, hn, fun h'' hsb => q _ σ' h'' tk' (S'.but hsb nL nb nH) ((fa.trans sa (f₀.trans s₀ f')).but hsb (fun o e nn l => by have := (fa.trans sa f₀).kept L' o e nn l; rw [nl] at this; cases this)) hr⟩
theorem j_setComp {x : Str} {px spos : Pos} {R : Flow → Sg → Prop} (O : Ok C n) (hsw : swapsWith (.ListComp elt [⟨target, iter, ifs, 0⟩] scope pos) (some (.Name x px)) spos.line env = Pure.pure true) (hclos : closureFor scope env = Pure.pure cl) (hcell : ∀ y ∈ scope.names, y.2 ≠ .cell) (hkind : scope.kind = .function)
    (hnames : ∀ y ∈ scope.names, y.2 = .local → scope.names.lookup y.1 = some .local) (hnd : ns.Nodup) (hs : ∀ x, foldedSetIterable iter env x = Pure.pure x)
    (h : J C (eval iter env) σ fun v σ₁ => J C (pyIter v) σ₁ fun it σ₂ => CompAt C n env scope cl ns target elt ifs it σ₂ fun r σ₃ => J C (storeName env x r) σ₃ fun _ σ₄ => R .next σ₄) : J C (exec (.Assign [.Name x px] (.ListComp elt [⟨target, iter, ifs, 0⟩] scope pos) spos) env) σ R := by
  refine j_mk fun s Q hs0 q => ?_
  rw [exec_Assign_Name_used _ _ _ _ hsw]
  refine wpAny_bind (wpAny_standAt (wpAny_bind ?_))
  show wpAny _ C.A (do let _ ← comprehension (.ListComp elt [⟨target, iter, ifs, 0⟩] scope pos) scope env _ (newList []) false (eval iter env) (some (assign (.Name x px) env))) _ _ s
  refine wpAny_bind (wpAny_mono (wpAny_comprehension_free (use := some (assign (.Name x px) env)) (Q := fun _ s' => Q .next s') (E := fun _ _ => False) rfl hs hclos hkind hnames
    (j_use h hs0 fun v σa ha ta sa fa ra => j_use ra (s := { s with heap := ha, toks := ta }) sa fun it σ₀ h₀ t₀ s₀ f₀ r₀ => ?_)) (fun _ s' hq => wpAny_pure (wpAny_pure hq)) fun _ _ e => e)
  refine comp_block (s₂ := { s with heap := h₀, toks := t₀ }) O hcell hkind hnd s₀ r₀ fun D L' σ' h' tk' m' S' f' hn nL nb nH nl hr => ?_
  show wpAny _ C.A (assign (.Name x px) env (.ref D)) _ _ _
  refine wpAny_assign_Name (j_use hr (s := { s with heap := h', toks := tk' }) S' fun _ σ₅ h₅ t₅ S₅ f₅ r₅ => ?_)
  obtain ⟨oL', es, ep, hL', rr⟩ := hn
  have nH5 : σ₅.H L' = none := by
    cases e : σ₅.H L' with
    | none => rfl
    | some o =>
      rcases f₅.dom L' o e with h1 | h1
      · exact absurd nH h1
      · rw [show ({ s with heap := h', toks := tk' } : Shared).heap = h' from rfl, hL'] at h1; cases h1
  refine ⟨m', ⟨oL', es, ep, f₅.kept L' oL' hL' nH (Ne.symm nL), rr⟩, fun h'' hsb => ?_⟩
  exact q _ σ₅ h'' t₅ (S₅.but hsb nL nb nH5) ((fa.trans sa (f₀.trans s₀ (f'.trans S' f₅))).but hsb (fun o e nn l => by have := (fa.trans sa f₀).kept L' o e nn l; rw [nl] at this; cases this)) r₅

theorem j_tests0 {R : Bool → Sg → Prop} (h : R true σ) : J C (compTests [] env) σ R := j_ret h
theorem j_tests1 {c : Expr} {R : Bool → Sg → Prop} (h : J C (isTrue c env (eval c env)) σ R) : J C (compTests [c] env) σ R := by
  unfold compTests
  rw [List.forIn_cons]
  simp only [if_true]
  refine j_bind (j_bind (j_mono h fun b σ₁ h₁ => j_ret ?_))
  simp only [List.forIn_nil]
  exact j_ret h₁
theorem j_frame2 {α : Type} {t : Sem α} {vs : List (Option Value)} {H A B : PH} {R : α → Sg → Prop} (h1 : Disj A H) (h2 : Disj B (H.both A)) (h : J C t ⟨vs, H⟩ fun a σ' => Disj A σ'.H → Disj B (σ'.H.both A) → R a ⟨σ'.vs, (σ'.H.both A).both B⟩) : J C t ⟨vs, (H.both A).both B⟩ R :=
  j_frame h2 (j_frame h1 (j_mono h fun _ _ h' a b => h' a b))
theorem both_none {H F : PH} {a : Addr} (h : H a = none) (h' : F a = none) : (H.both F) a = none := by rw [PH.both_right h]; exact h'
theorem disj_none {a : Addr} {o : Obj} {H F : PH} (h : Disj F (H.both (PH.one a o))) : F a = none := by
  cases e : F a with
  | none => rfl
  | some o' =>
    have := h a (by rw [e]; exact Option.some_ne_none _)
    cases eH : H a with
    | none => rw [PH.both_right eH, PH.one_self] at this; cases this
    | some o2 => rw [PH.both_left eH] at this; cases this
theorem disj_left {H A F : PH} (h : Disj F (H.both A)) : Disj F H := fun b hb => by
  have := h b hb
  cases e : H b with
  | none => rfl
  | some o => rw [PH.both_left e] at this; cases this
theorem set_in {H F : PH} {D : Addr} {o o' : Obj} (h : H D = none) : ((H.both (PH.one D o)).both F).set D o' = (H.both (PH.one D o')).both F := by
  funext b
  by_cases q : b = D
  · subst q; rw [PH.set_self]; symm; exact PH.both_left (by rw [PH.both_right h, PH.one_self])
  · rw [PH.set_ne q]
    have e : ∀ o, (H.both (PH.one D o)) b = H b := fun o => by
      cases e : H b with
      | some o2 => exact PH.both_left e
      | none => rw [PH.both_right e]; unfold PH.one; rw [if_neg q]
    cases e2 : H b with
    | some o2 => rw [PH.both_left (by rw [e, e2]), PH.both_left (by rw [e, e2])]
    | none => rw [PH.both_right (by rw [e, e2]), PH.both_right (by rw [e, e2])]
theorem compAt_iter {it : Value} {vs : List (Option Value)} {H F : PH} {N : Nat} {item : Nat → Value → Prop} {need : PH → Prop} {S : Nat → PH → Prop} {R : Value → Sg → Prop} (hz : N ≤ 1000) (hmono : ∀ H X, need H → need (H.both X))
    (T : ∀ base' L', Ok ⟨C.w, C.A, base', L', ns⟩ n → Iter ⟨C.w, C.A, base', L', ns⟩ it N item need S) (hj : Disj F H) (hS : S 0 F) (I : Nat → List Value → PH → Prop) (h0 : I 0 [] H) (hneed : ∀ i ys H', I i ys H' → need H')
    (turn : ∀ base' L', Ok ⟨C.w, C.A, base', L', ns⟩ n → ∀ i ys H' v vs', i < N → vs'.length = ns.length → I i ys H' → item i v → J ⟨C.w, C.A, base', L', ns⟩ (assign target (compEnvC scope cl L' env) v) ⟨vs', H'⟩ fun _ σ₁ =>
      J ⟨C.w, C.A, base', L', ns⟩ (compTests ifs (compEnvC scope cl L' env)) σ₁ fun ok σ₂ => (ok = true → J ⟨C.w, C.A, base', L', ns⟩ (eval elt (compEnvC scope cl L' env)) σ₂ fun x σ₃ => σ₃.vs.length = ns.length ∧ I (i + 1) (ys ++ [x]) σ₃.H) ∧ (ok = false → σ₂.vs.length = ns.length ∧ I (i + 1) ys σ₂.H))
    (done : ∀ D ys H' k, H' D = none → I N ys H' → R (.ref D) ⟨vs, H'.set D (listOf ys.toArray k)⟩) : CompAt C n env scope cl ns target elt ifs it ⟨vs, H.both F⟩ R := by
  intro base' L' D O' hD
  have hD' : (H.both F) D = none := hD
  have hDF : F D = none := by
    cases e : H D with
    | none => rw [PH.both_right e] at hD'; exact hD'
    | some o => rw [PH.both_left e] at hD'; cases hD'
  have hDH : H D = none := by
    cases e : H D with
    | none => rfl
    | some o => rw [PH.both_left e] at hD'; cases hD'
  have T' := T base' L' O'
  have e0 : (H.both F).set D (listOf #[] 0) = (H.both (PH.one D (listOf ([] : List Value).toArray 0))).both F := by
    funext b
    by_cases q : b = D
    · subst q; rw [PH.set_self]; symm; exact PH.both_left (by rw [PH.both_right hDH, PH.one_self])
    · rw [PH.set_ne q]
      cases e2 : H b with
      | some o2 => rw [PH.both_left e2, PH.both_left (PH.both_left e2)]
      | none =>
        rw [PH.both_right e2, PH.both_right]
        rw [PH.both_right e2]; unfold PH.one; rw [if_neg q]
  have hj0 : Disj F (H.both (PH.one D (listOf ([] : List Value).toArray 0))) := fun b hb => by
    rw [PH.both_right (hj b hb)]; unfold PH.one; rw [if_neg (fun q => by subst q; exact hb hDF)]
  dsimp only
  rw [e0]
  refine ⟨T'.self 0 (nones ns) _ _ hj0 hS, fun k σ' => ∃ i ys H' F' e, σ'.H = (H'.both (PH.one D (listOf ys.toArray e))).both F' ∧ σ'.vs.length = ns.length ∧ H' D = none ∧ Disj F' (H'.both (PH.one D (listOf ys.toArray e))) ∧ S i F' ∧ I i ys H' ∧ i ≤ N ∧ ys.length ≤ i ∧ k = N - i, N,
    ⟨0, [], H, F, 0, rfl, by simp [nones], hDH, hj0, hS, h0, Nat.zero_le _, Nat.le_refl _, rfl⟩, ?_⟩
  rintro k ⟨vs', Hall⟩ ⟨i, ys, H', F', e, e1, hvl, hD1, hj1, hS1, hI, hi, hys, rfl⟩
  dsimp only at e1 hvl; subst e1
  by_cases hlt : i < N
  · refine j_mono (T'.next i vs' _ F' hlt (hmono _ _ (hneed _ _ _ hI)) hj1 hS1) ?_
    rintro r σ' ⟨v, F₁, rfl, hv, hS₁, hd₁, rfl⟩
    refine j_mono (T'.own _ vs' _ F₁ target v hd₁ hS₁) ?_
    rintro _ σ₂ rfl
    refine j_frame2 (disj_one hD1) hd₁ (j_mono (turn base' L' O' i ys H' v vs' hlt hvl hI hv) ?_)
    intro _ σ₁ h₁ d1 d2
    refine j_frame2 d1 d2 (j_mono h₁ ?_)
    intro ok σ₂ h₂ d3 d4
    refine ⟨fun hok => ?_, fun hok => ?_⟩
    · refine j_frame2 d3 d4 (j_mono (h₂.1 hok) ?_)
      intro x σ₃ h₃ d5 d6
      have hD3 := disj_at d5
      refine j_append (vs := σ₃.vs) (items := ys) ⟨e, PH.both_left (by rw [PH.both_right hD3, PH.one_self])⟩ (by rw [sizeLine_eq]; omega) fun k' => ?_
      rw [set_in hD3]
      refine ⟨N - (i + 1), by omega, i + 1, ys ++ [x], σ₃.H, F₁, k', rfl, h₃.1, hD3, fun b hb => ?_, hS₁, h₃.2, hlt, by simp; omega, rfl⟩
      rw [PH.both_right (disj_left d6 b hb)]; unfold PH.one; rw [if_neg (fun q => by subst q; exact hb (disj_none d6))]
    · exact ⟨N - (i + 1), by omega, i + 1, ys, σ₂.H, F₁, e, rfl, (h₂.2 hok).1, disj_at d3, d4, hS₁, (h₂.2 hok).2, hlt, by omega, rfl⟩
  · have hN : i = N := by omega
    subst hN
    refine j_mono (T'.stop vs' _ F' (hmono _ _ (hneed _ _ _ hI)) hj1 hS1) ?_
    rintro r σ' ⟨rfl, rfl⟩
    have := done D ys H' e hD1 hI
    rw [set_one hD1] at this
    exact this
end
end Mine

namespace Mine
section
variable {C : Cx} {σ : Sg} {n : Nat} {env : Env} {pos : Pos}
/-! subscripts, stores, statements -/
theorem j_asgSub {o i e : Expr} {p : Pos} {R : Flow → Sg → Prop} (h : J C (eval e env) σ fun v σ₁ => J C (eval o env) σ₁ fun ov σ₂ => J C (eval i env) σ₂ fun iv σ₃ => J C (setItem ov iv v) σ₃ fun _ σ₄ => R .next σ₄)
    (hs : swapsWith e (some (.Subscript o i p)) pos.line env = Pure.pure false := by rfl) : J C (exec (.Assign [.Subscript o i p] e pos) env) σ R :=
  j_mk fun s Q hs0 q => wpAny_Assign_Subscript (j_use h hs0 fun _ σ₁ h₁ t₁ s₁ f₁ r₁ => j_use r₁ (s := { s with heap := h₁, toks := t₁ }) s₁ fun _ σ₂ h₂ t₂ s₂ f₂ r₂ => j_use r₂ (s := { s with heap := h₂, toks := t₂ }) s₂ fun _ σ₃ h₃ t₃ s₃ f₃ r₃ =>
    j_use r₃ (s := { s with heap := h₃, toks := t₃ }) s₃ fun _ σ₄ h₄ t₄ s₄ f₄ r₄ => q _ σ₄ h₄ t₄ s₄ (f₁.trans s₁ (f₂.trans s₂ (f₃.trans s₃ f₄))) r₄) hs
theorem j_augSub {o i e : Expr} {p : Pos} {op : Operator} {R : Flow → Sg → Prop} (h : J C (eval o env) σ fun ov σ₁ => J C (eval i env) σ₁ fun iv σ₂ => J C (getItem ov iv) σ₂ fun old σ₃ => J C (eval e env) σ₃ fun v σ₄ => J C (inplaceOp op old v) σ₄ fun new σ₅ => J C (setItem ov iv new) σ₅ fun _ σ₆ => R .next σ₆)
    (hi : ∀ ov iv new, augStore i ov iv new = (do holding [new, ov, iv] (setItem ov iv new); release [new, ov, iv] []; pure .next) := by intros; rfl) : J C (exec (.AugAssign (.Subscript o i p) op e pos) env) σ R :=
  j_mk fun s Q hs0 q => wpAny_AugAssign_SubscriptAny (j_use h hs0 fun _ σ₁ h₁ t₁ s₁ f₁ r₁ => j_use r₁ (s := { s with heap := h₁, toks := t₁ }) s₁ fun _ σ₂ h₂ t₂ s₂ f₂ r₂ => j_use r₂ (s := { s with heap := h₂, toks := t₂ }) s₂ fun _ σ₃ h₃ t₃ s₃ f₃ r₃ =>
    j_use r₃ (s := { s with heap := h₃, toks := t₃ }) s₃ fun _ σ₄ h₄ t₄ s₄ f₄ r₄ => j_use r₄ (s := { s with heap := h₄, toks := t₄ }) s₄ fun _ σ₅ h₅ t₅ s₅ f₅ r₅ => j_use r₅ (s := { s with heap := h₅, toks := t₅ }) s₅ fun _ σ₆ h₆ t₆ s₆ f₆ r₆ =>
      q _ σ₆ h₆ t₆ s₆ (f₁.trans s₁ (f₂.trans s₂ (f₃.trans s₃ (f₄.trans s₄ (f₅.trans s₅ f₆))))) r₆) hi
theorem j_delSub {o i : Expr} {p : Pos} {R : Flow → Sg → Prop} (h : J C (eval o env) σ fun ov σ₁ => J C (eval i env) σ₁ fun iv σ₂ => J C (delItem ov iv) σ₂ fun _ σ₃ => R .next σ₃) : J C (exec (.Delete [.Subscript o i p] pos) env) σ R :=
  j_mk fun s Q hs0 q => wpAny_Delete (wpAny_deleteEach_cons (wpAny_delete_Subscript (j_use h hs0 fun _ σ₁ h₁ t₁ s₁ f₁ r₁ => j_use r₁ (s := { s with heap := h₁, toks := t₁ }) s₁ fun _ σ₂ h₂ t₂ s₂ f₂ r₂ => j_use r₂ (s := { s with heap := h₂, toks := t₂ }) s₂ fun _ σ₃ h₃ t₃ s₃ f₃ r₃ =>
    wpAny_deleteEach_nil (q _ σ₃ h₃ t₃ s₃ (f₁.trans s₁ (f₂.trans s₂ f₃)) r₃))))
theorem j_assert {t : Expr} {m : Option Expr} {R : Flow → Sg → Prop} (h : J C (isTrue t env (eval t env)) σ fun b σ₁ => b = true ∧ R .next σ₁) : J C (exec (.Assert t m pos) env) σ R :=
  j_mk fun s Q hs0 q => wpAny_Assert_holds (j_use h hs0 fun _ σ₁ h₁ t₁ s₁ f₁ r₁ => ⟨r₁.1, q _ σ₁ h₁ t₁ s₁ f₁ r₁.2⟩)
theorem j_expr {e : Expr} {R : Flow → Sg → Prop} (h : J C (eval e env) σ fun _ σ₁ => R .next σ₁) (hi : interactive env = false := by rfl) (hs : swapsWith e none pos.line env = Pure.pure false := by rfl) : J C (exec (.Expr e pos) env) σ R :=
  j_mk fun s Q hs0 q => wpAny_Expr_any (j_use h hs0 fun _ σ₁ h₁ t₁ s₁ f₁ r₁ => q _ σ₁ h₁ t₁ s₁ f₁ r₁) hi hs
theorem j_asgAttr {o e : Expr} {x : Str} {p : Pos} {R : Flow → Sg → Prop} (h : J C (eval e env) σ fun v σ₁ => J C (eval o env) σ₁ fun ov σ₂ => J C (setAttr ov x v) σ₂ fun _ σ₃ => R .next σ₃)
    (hs : swapsWith e (some (.Attribute o x p)) pos.line env = Pure.pure false := by rfl) : J C (exec (.Assign [.Attribute o x p] e pos) env) σ R :=
  j_mk fun s Q hs0 q => plainObj_wpAny_Assign_Attribute (j_use h hs0 fun _ σ₁ h₁ t₁ s₁ f₁ r₁ => j_use r₁ (s := { s with heap := h₁, toks := t₁ }) s₁ fun _ σ₂ h₂ t₂ s₂ f₂ r₂ => j_use r₂ (s := { s with heap := h₂, toks := t₂ }) s₂ fun _ σ₃ h₃ t₃ s₃ f₃ r₃ =>
    q _ σ₃ h₃ t₃ s₃ (f₁.trans s₁ (f₂.trans s₂ f₃)) r₃) hs
theorem j_three {t₁ t₂ t₃ e : Expr} {R : Flow → Sg → Prop} (h : J C (eval e env) σ fun v σ₁ => J C (assign t₁ env v) σ₁ fun _ σ₂ => J C (assign t₂ env v) σ₂ fun _ σ₃ => J C (assign t₃ env v) σ₃ fun _ σ₄ => R .next σ₄)
    (he : (assignEach [t₁, t₂, t₃] env).map (·.2) = [assign t₁ env, assign t₂ env, assign t₃ env] := by rfl) (hw : swappedStores [t₁, t₂, t₃] e env = Pure.pure none := by rfl) : J C (exec (.Assign [t₁, t₂, t₃] e pos) env) σ R :=
  j_mk fun s Q hs0 q => wpAny_Assign_three (j_use h hs0 fun _ σ₁ h₁ t₁ s₁ f₁ r₁ => j_use r₁ (s := { s with heap := h₁, toks := t₁ }) s₁ fun _ σ₂ h₂ t₂ s₂ f₂ r₂ => j_use r₂ (s := { s with heap := h₂, toks := t₂ }) s₂ fun _ σ₃ h₃ t₃ s₃ f₃ r₃ =>
    j_use r₃ (s := { s with heap := h₃, toks := t₃ }) s₃ fun _ σ₄ h₄ t₄ s₄ f₄ r₄ => q _ σ₄ h₄ t₄ s₄ (f₁.trans s₁ (f₂.trans s₂ (f₃.trans s₃ f₄))) r₄) he hw
/-- what is subscripted is of a type of the library: never «__getitem__» of the program's own -/
def Subs (C : Cx) (o : Value) (σ : Sg) : Prop := ∀ s : Shared, St C σ s.heap → ∃ T id, typeLookup (.type T) "__getitem__" = Pure.pure (some (.builtin id)) ∧ s.TypeIs o T
theorem subs_L {a : Addr} {items : List Value} (hl : IL σ.H a items) : Subs C (.ref a) σ := fun s hs => ⟨"list", _, list_getitem_lookup, (hs.isList hl).typeIs⟩
theorem subs_S {x : Str} {t : Tok} : Subs C (.str x t) σ := fun s _ => ⟨"str", _, F.slot_str_getitem.lookup, typeIs_str s x t⟩
theorem subs_T {a : Addr} {items : List Value} (hl : TL σ.H a items) : Subs C (.ref a) σ := fun s hs => ⟨"tuple", _, F.slot_tuple_getitem.lookup, let ⟨k, e⟩ := hl; ⟨_, hs.get e, rfl⟩⟩
theorem j_sub {o i : Expr} {R : Value → Sg → Prop} (h : J C (eval o env) σ fun ov σ₁ => J C (eval i env) σ₁ fun iv σ₂ => Subs C ov σ₂ ∧ J C (getItem ov iv) σ₂ R) : J C (eval (.Subscript o i pos) env) σ R := by
  rw [eval_Subscript]
  refine j_bind (j_mono h fun ov σ₁ h₁ => j_bind (j_holding (j_mono h₁ fun iv σ₂ h₂ => j_bind (j_standAt (j_bind ?_)))))
  have key : J C (getitemInPython ov) σ₂ fun b σ' => b = false ∧ σ' = σ₂ := by
    refine j_same ⟨rfl, rfl⟩ fun s Q hs q => ?_
    obtain ⟨T, id, hl, hT⟩ := h₂.1 s hs
    rw [getitemInPython_of_ne hT.not_modules]
    exact wpAny_bind (wpAny_specialOf hT hl (wpAny_pure (q s.toks)))
  refine j_mono key ?_
  rintro b σ' ⟨rfl, rfl⟩
  have fin : ∀ vs, J C (operate vs (getItem ov iv)) σ' fun r σ₃ => J C (letTemporaryGo o ov r >>= fun _ => Pure.pure r) σ₃ R := fun vs => by
    refine j_operate (j_mono h₂.2 fun r σ₃ h₃ => ?_)
    exact j_bind (j_same (R := fun _ σ' => J C (Pure.pure r : Sem Value) σ' R) (j_ret h₃) fun s Q hs q => wpAny_letTemporaryGo (q s.toks))
  refine j_bind ?_
  unfold subscripted
  split
  · exact fin _
  · rename_i e; cases e
  · exact fin _
/-- ints are told apart by their tokens -/
def Apart (a : Int) (t : Tok) (b : Int) (u : Tok) : Prop := t ≠ 0 ∧ u ≠ 0 ∧ (a = b → smallInt a = true) ∧ (a ≠ b → t ≠ u)
theorem j_isI {a b : Int} {t u : Tok} {R : Value → Sg → Prop} (ha : Apart a t b u) (h : R (.bool (a == b)) σ) : J C (compareOp .Is (.int a t) (.int b u)) σ R := by
  obtain ⟨h1, h2, h3, h4⟩ := ha
  refine j_same h fun s Q hs q => ?_
  show wpAny _ _ (do return Value.bool (← isSame (.int a t) (.int b u))) _ _ _
  refine wpAny_bind ?_
  show wpAny _ _ (if (a == b && smallInt a) = true then isSame.cachedInt t u else isSame.created (a == b) t u) _ _ _
  have e0 : (t == 0 || u == 0) = false := by simp [h1, h2]
  by_cases hab : a = b
  · have e : (a == b) = true := by simpa using hab
    rw [if_pos (by rw [e, h3 hab]; rfl)]
    unfold isSame.cachedInt
    rw [e0]
    exact wpAny_bind (wpAny_rule (wpAny_pure (wpAny_pure (e ▸ q s.toks))))
  · have e : (a == b) = false := by simpa using hab
    rw [if_neg (by rw [e, Bool.false_and]; exact Bool.false_ne_true), e]
    unfold isSame.created
    rw [e0]
    have e1 : (t == u) = false := by simpa using h4 hab
    simp only [e1, Bool.not_false, Bool.false_eq_true, if_false, if_true]
    exact wpAny_pure (wpAny_pure (e ▸ q s.toks))
theorem j_isB {a b : Bool} {R : Value → Sg → Prop} (h : R (.bool (a == b)) σ) : J C (compareOp .Is (.bool a) (.bool b)) σ R := j_same h fun s Q hs q => is_bool (q s.toks)
theorem j_isNotB {a b : Bool} {R : Value → Sg → Prop} (h : R (.bool (a != b)) σ) : J C (compareOp .IsNot (.bool a) (.bool b)) σ R := j_same h fun s Q hs q => isnot_bool (q s.toks)
end

/-! defs whose names are cells -/
section
variable {C : Cx} {σ : Sg} {n : Nat} {f : Addr} {name qual : Str} {params : Arguments} {body : List Stmt} {scope : Scope} {dV kV doc pm cdv ct oc : Value} {an od : Option Addr} {osl : Array (Option Value)} {vals : List Value} {rest : List Str}
def cellsPH (h : Heap) (cs : List (Str × Addr)) (H : PH) : PH := fun b => if cs.any (fun p => p.2 == b) then h.get? b else H b
theorem look_one (x : Str) (v : Value) (r : List Str) : look (x :: r) (some v :: nones r) = fun y => if y = x then some v else none := by
  funext y
  show (if y = x then some v else look r (nones r) y) = _
  rw [look_nones]
theorem j_callC {R : Value → Sg → Prop} (ns : List Str) (vs₀ : List (Option Value)) (O : Ok C (n + 1)) (ho : (Mine.HeapK C.w.params).lookup f = some ⟨oc, od, .func (fnOf name qual params body scope dV kV doc pm an cdv ct), osl⟩) (hcd : codeIn (Mine.HeapK C.w.params) cdv qual = true)
    (binds : List (Str × Value)) (hbind : bindArgs (fnOf name qual params body scope dV kV doc pm an cdv ct) ⟨vals, []⟩ = pure binds)
    (hkind : ∀ L, ∀ x ∈ binds, scope.names.lookup x.1 = some .local ∨ (scope.names.lookup x.1 = some .cell ∧ ((cellsFrom (L + 1) scope.names []).lookup x.1).isSome = true))
    (hm : bindL (fun y => scope.names.lookup y) binds (fun _ => none) = look ns vs₀) (hnd : ns.Nodup)
    (hco : scope.isCoroutine = false) (hgen : scope.isGenerator = false) (hk : scope.kind = .function)
    (h : ∀ A' base' L' H', Ok ⟨C.w, A', base', L', ns⟩ n → σ.H.le H' → (∀ x c, (cellsFrom (L' + 1) scope.names []).lookup x = some c → σ.H c = none ∧ ∃ o, H' c = some o ∧ o.data = .cell (bindC (fun y => scope.names.lookup y) binds (fun _ => none) x)) →
      J ⟨C.w, A', base', L', ns⟩ (execs body (envOfC qual scope L' f cdv)) ⟨vs₀, H'⟩ (fun fl σ' => R (match fl with | .ret v => v | _ => .none) ⟨σ.vs, σ'.H⟩)) : J C (PySem.call (.ref f) vals) σ R := by
  refine j_mk fun s Q hs q => wpAny_call ?_
  obtain ⟨mean, mg, mb, T⟩ := O.T
  have X := O.X.keeps hs.fr.keep
  refine codeAny_call_cells (fd := fnOf name qual params body scope dV kV doc pm an cdv ct) (body := body) (by have := O.depth; omega) (X _ _ ho) rfl (T.nolimit.keeps hs.fr.keep) (codeRec_of X hcd) rfl hbind rfl (hkind _) (fun s₁ x => ?_) hco hgen hk
  have O' : Ok ⟨C.w, C.A.deeper (callEnvC (fnOf name qual params body scope dV kV doc pm an cdv ct) s.heap.objs.size f), hidden σ.H s.heap, s.heap.objs.size, ns⟩ n :=
    ⟨O.X.keeps (hs.stays), ⟨mean, mg, mb, T.keeps hs.stays⟩, O.hh, by have := O.depth; show C.A.depth + 1 + n < _; omega, by have := O.units; show C.A.units + 3 + 20 * n + 200 < _; omega, hnd⟩
  obtain ⟨h₁, tk₁, e₁⟩ := x.toInCall.same
  have xk := x.toInCall.keep
  have xn := x.toInCall.ns
  have xc := x.cell
  have xa := x.above
  subst e₁
  change ∀ b o, s.heap.get? b = some o → h₁.get? b = some o at xk
  change h₁.Ns s.heap.objs.size _ at xn
  change ∀ y c, (cellsFrom (s.heap.objs.size + 1) scope.names []).lookup y = some c → h₁.IsCell c (bindC (fun y => scope.names.lookup y) binds (fun _ => none) y) at xc
  change ∀ y c, (y, c) ∈ cellsFrom (s.heap.objs.size + 1) scope.names [] → s.heap.objs.size < c at xa
  have nlive : ∀ a, s.heap.objs.size ≤ a → s.heap.get? a = none := fun a ha => by
    cases e : s.heap.get? a with
    | none => rfl
    | some o => exact absurd (Heap.lt_size e) (Nat.not_lt.mpr ha)
  have up : ∀ b, (cellsFrom (s.heap.objs.size + 1) scope.names []).any (fun p => p.2 == b) = true → s.heap.objs.size < b := fun b hb => by
    obtain ⟨p, hp, e⟩ := List.any_eq_true.mp hb
    exact beq_iff_eq.mp e ▸ xa p.1 p.2 hp
  have nH : ∀ b, s.heap.objs.size ≤ b → σ.H b = none := fun b hb => by
    cases e : σ.H b with
    | none => rfl
    | some o => have := hs.get e; rw [nlive b hb] at this; cases this
  have hs' : St ⟨C.w, C.A.deeper (callEnvC (fnOf name qual params body scope dV kV doc pm an cdv ct) s.heap.objs.size f), hidden σ.H s.heap, s.heap.objs.size, ns⟩
      ⟨vs₀, cellsPH h₁ (cellsFrom (s.heap.objs.size + 1) scope.names []) σ.H⟩ h₁ := by
    refine ⟨⟨?_, fun b o e => xk b o (of_hidden e), Nat.le_of_eq (hidden_size _ _)⟩, fun a o e => ?_⟩
    · show h₁.Ns s.heap.objs.size (look ns vs₀)
      rw [← hm]; exact xn
    · change cellsPH _ _ _ a = _ at e
      unfold cellsPH at e
      split at e
      · rename_i hb
        refine ⟨e, Nat.ne_of_gt (up a hb), ?_⟩
        cases e2 : (hidden σ.H s.heap).get? a with
        | none => rfl
        | some ob => have := of_hidden e2; rw [nlive a (Nat.le_of_lt (up a hb))] at this; cases this
      · exact ⟨xk _ _ (hs.get e), Nat.ne_of_lt (Heap.lt_size (hs.get e)), hidden_none (hs.get e) e⟩
  refine j_use (h _ _ _ (cellsPH h₁ (cellsFrom (s.heap.objs.size + 1) scope.names []) σ.H) O' (fun a o e => ?_) fun y c hc => ?_) (s := { s with heap := h₁, toks := tk₁ }) hs' fun fl σ' h' tk' hs'' hf r => q _ _ h' tk' (hs.back rfl hs'')
    ⟨fun b o e => ?_, fun b o e n _ => hf.kept b o (xk b o e) ?_ (Nat.ne_of_lt (Heap.lt_size e))⟩ r
  · unfold cellsPH
    split
    · rename_i hb; rw [nH a (Nat.le_of_lt (up a hb))] at e; cases e
    · exact e
  · obtain ⟨o, ho1, ho2⟩ := xc y c hc
    have hb : (cellsFrom (s.heap.objs.size + 1) scope.names []).any (fun p => p.2 == c) = true := List.any_eq_true.mpr ⟨(y, c), mem_of_lookup hc, by simp⟩
    refine ⟨nH c (Nat.le_of_lt (up c hb)), o, ?_, ho2⟩
    unfold cellsPH; rw [if_pos hb]; exact ho1
  · rcases hf.dom b o e with h1 | h1
    · by_cases hb : (cellsFrom (s.heap.objs.size + 1) scope.names []).any (fun p => p.2 == b) = true
      · exact .inr (nlive b (Nat.le_of_lt (up b hb)))
      · change cellsPH _ _ _ b ≠ none at h1
        unfold cellsPH at h1
        rw [if_neg hb] at h1
        exact .inl h1
    · refine .inr ?_
      cases e2 : s.heap.get? b with
      | none => rfl
      | some ob => exact absurd h1 (by show h₁.get? b ≠ none; rw [xk b ob e2]; exact Option.some_ne_none _)
  · show cellsPH _ _ _ b = none
    unfold cellsPH
    split
    · rename_i hb
      rw [nlive b (Nat.le_of_lt (up b hb))] at e; cases e
    · exact n
end
end Mine

namespace Mine
/-! iterators that hand out tuples of their own -/
def PH.nil : PH := fun _ => none
theorem both_nil {H : PH} : H.both PH.nil = H := by
  funext b
  unfold PH.both PH.nil
  cases H b <;> rfl
theorem both_swap {H A B : PH} (h : ∀ b, A b ≠ none → B b = none) : (H.both A).both B = (H.both B).both A := by
  funext b
  unfold PH.both
  cases H b with
  | some o => rfl
  | none =>
    cases eA : A b with
    | none => cases B b <;> rfl
    | some o => rw [h b (by rw [eA]; exact Option.some_ne_none _)]
theorem step {C : Cx} {vs : List (Option Value)} {H F X F' : PH} {h h' : Heap} (hs : St C ⟨vs, H.both F⟩ h) (hd : Disj F H) (hk : ∀ b o, F b = none → h.get? b = some o → h'.get? b = some o)
    (hX : ∀ b o, X b = some o → h'.get? b = some o ∧ h.get? b = none) (hF : ∀ b o, F' b = some o → h'.get? b = some o ∧ X b = none ∧ (F b ≠ none ∨ h.get? b = none)) :
    St C ⟨vs, (H.both X).both F'⟩ h' ∧ Fram C ⟨vs, H.both F⟩ h ⟨vs, (H.both X).both F'⟩ h' ∧ Disj X H ∧ Disj F' (H.both X) := by
  have hH : ∀ b o, H b = some o → F b = none ∧ h.get? b = some o := fun b o e => by
    have h1 := hs.get (PH.both_left (F := F) e)
    refine ⟨?_, h1⟩
    cases q : F b with
    | none => rfl
    | some o' => have := hd b (by rw [q]; exact Option.some_ne_none _); rw [this] at e; cases e
  have hFb : ∀ b o, F b = some o → h.get? b = some o ∧ b ≠ C.L ∧ C.base.get? b = none := fun b o e => hs.hp b o (by show (H.both F) b = _; rw [PH.both_right (hd b (by rw [e]; exact Option.some_ne_none _))]; exact e)
  have fresh : ∀ b, h.get? b = none → b ≠ C.L ∧ C.base.get? b = none := fun b e => by
    obtain ⟨oL, _, _, hL, _⟩ := hs.fr.ns
    refine ⟨fun q => (by subst q; rw [e] at hL; cases hL), ?_⟩
    cases q : C.base.get? b with
    | none => rfl
    | some o => have := hs.fr.keep b o q; rw [e] at this; cases this
  have dX : Disj X H := fun b hb => by
    obtain ⟨o, e⟩ := Option.ne_none_iff_exists'.mp hb
    cases q : H b with
    | none => rfl
    | some o' => have := (hH b o' q).2; rw [(hX b o e).2] at this; cases this
  have dF : Disj F' (H.both X) := fun b hb => by
    obtain ⟨o, e⟩ := Option.ne_none_iff_exists'.mp hb
    obtain ⟨_, h2, h3⟩ := hF b o e
    cases q : H b with
    | none => rw [PH.both_right q]; exact h2
    | some o' =>
      obtain ⟨q1, q2⟩ := hH b o' q
      rcases h3 with h3 | h3
      · exact absurd q1 h3
      · rw [h3] at q2; cases q2
  have nF : ∀ b, ((H.both F) b = none) → F b = none := fun b e => by
    cases q : F b with
    | none => rfl
    | some o => rw [PH.both_right (hd b (by rw [q]; exact Option.some_ne_none _)), q] at e; cases e
  obtain ⟨oL, es, ep, hL, r⟩ := hs.fr.ns
  have LF : F C.L = none := by
    cases q : F C.L with
    | none => rfl
    | some o => exact absurd rfl (hFb _ o q).2.1
  refine ⟨⟨⟨⟨oL, es, ep, hk _ _ LF hL, r⟩, fun b o e => hk b o ?_ (hs.fr.keep b o e), hs.fr.above⟩, fun b o e => ?_⟩, ⟨fun b o e => ?_, fun b o e n _ => hk b o (nF b n) e⟩, dX, dF⟩
  · cases q : F b with
    | none => rfl
    | some o' => rw [(hFb b o' q).2.2] at e; cases e
  · have e' : ((H.both X).both F') b = some o := e
    cases q : H b with
    | some o' =>
      rw [PH.both_left (PH.both_left q)] at e'
      have e2 := Option.some.inj e'
      subst e2
      obtain ⟨q1, q2⟩ := hH b o' q
      have := hs.hp b o' (PH.both_left q)
      exact ⟨hk b o' q1 q2, this.2⟩
    | none =>
      cases qX : X b with
      | some o' =>
        rw [PH.both_left (by rw [PH.both_right q]; exact qX)] at e'
        have e2 := Option.some.inj e'
        subst e2
        exact ⟨(hX b o' qX).1, fresh b (hX b o' qX).2⟩
      | none =>
        rw [PH.both_right (by rw [PH.both_right q]; exact qX)] at e'
        obtain ⟨h1, _, h3⟩ := hF b o e'
        refine ⟨h1, ?_⟩
        rcases h3 with h3 | h3
        · obtain ⟨o', e3⟩ := Option.ne_none_iff_exists'.mp h3
          exact (hFb b o' e3).2
        · exact fresh b h3
  · have e' : ((H.both X).both F') b = some o := e
    cases q : H b with
    | some o' => exact .inl (by show (H.both F) b ≠ none; rw [PH.both_left q]; exact Option.some_ne_none _)
    | none =>
      cases qX : X b with
      | some o' => exact .inr (hX b o' qX).2
      | none =>
        rw [PH.both_right (by rw [PH.both_right q]; exact qX)] at e'
        rcases (hF b o e').2.2 with h3 | h3
        · exact .inl (by show (H.both F) b ≠ none; rw [PH.both_right q]; exact h3)
        · exact .inr h3

structure IterX (C : Cx) (target : Expr) (it : Value) (N : Nat) (item : Nat → Value → PH → Prop) (need : PH → Prop) (S : Nat → PH → Prop) : Prop where
  next : ∀ i vs H F, i < N → need H → Disj F H → S i F → J C (pyNext it) ⟨vs, H.both F⟩ fun r σ' => ∃ v X F', r = some v ∧ item i v X ∧ Disj X H ∧ Disj F' (H.both X) ∧ σ' = ⟨vs, (H.both X).both F'⟩ ∧
    J C (letOwnedTupleGo target it v) σ' fun _ σ'' => ∃ F'', S (i + 1) F'' ∧ Disj F'' (H.both X) ∧ σ'' = ⟨vs, (H.both X).both F''⟩
  stop : ∀ vs H F, need H → Disj F H → S N F → J C (pyNext it) ⟨vs, H.both F⟩ fun r σ' => r = none ∧ σ' = ⟨vs, H⟩
  self : ∀ i vs H F, Disj F H → S i F → J C (pyIter it) ⟨vs, H.both F⟩ fun it' σ' => it' = it ∧ σ' = ⟨vs, H.both F⟩

section
variable {C : Cx} {n : Nat} {env : Env} {pos : Pos} {elt target iter : Expr} {ifs : List Expr} {scope : Scope} {cl : List (Str × Addr)} {ns : List Str}
theorem compAt_iterX {it : Value} {vs : List (Option Value)} {H F : PH} {N : Nat} {item : Nat → Value → PH → Prop} {need : PH → Prop} {S : Nat → PH → Prop} {R : Value → Sg → Prop} (hz : N ≤ 1000) (hmono : ∀ H X, need H → need (H.both X))
    (T : ∀ base' L', Ok ⟨C.w, C.A, base', L', ns⟩ n → IterX ⟨C.w, C.A, base', L', ns⟩ target it N item need S) (hj : Disj F H) (hS : S 0 F) (I : Nat → List Value → PH → Prop) (h0 : I 0 [] H) (hneed : ∀ i ys H', I i ys H' → need H')
    (turn : ∀ base' L', Ok ⟨C.w, C.A, base', L', ns⟩ n → ∀ i ys H' X v vs', i < N → vs'.length = ns.length → I i ys H' → item i v X → Disj X H' → J ⟨C.w, C.A, base', L', ns⟩ (assign target (compEnvC scope cl L' env) v) ⟨vs', H'.both X⟩ fun _ σ₁ =>
      J ⟨C.w, C.A, base', L', ns⟩ (compTests ifs (compEnvC scope cl L' env)) σ₁ fun ok σ₂ => (ok = true → J ⟨C.w, C.A, base', L', ns⟩ (eval elt (compEnvC scope cl L' env)) σ₂ fun x σ₃ => σ₃.vs.length = ns.length ∧ I (i + 1) (ys ++ [x]) σ₃.H) ∧ (ok = false → σ₂.vs.length = ns.length ∧ I (i + 1) ys σ₂.H))
    (done : ∀ D ys H' k, H' D = none → I N ys H' → R (.ref D) ⟨vs, H'.set D (listOf ys.toArray k)⟩) : CompAt C n env scope cl ns target elt ifs it ⟨vs, H.both F⟩ R := by
  intro base' L' D O' hD
  have hD' : (H.both F) D = none := hD
  have hDF : F D = none := by
    cases e : H D with
    | none => rw [PH.both_right e] at hD'; exact hD'
    | some o => rw [PH.both_left e] at hD'; cases hD'
  have hDH : H D = none := by
    cases e : H D with
    | none => rfl
    | some o => rw [PH.both_left e] at hD'; cases hD'
  have T' := T base' L' O'
  have e0 : (H.both F).set D (listOf #[] 0) = (H.both (PH.one D (listOf ([] : List Value).toArray 0))).both F := by
    rw [set_one hD']
    exact both_swap fun b hb => by unfold PH.one; rw [if_neg (fun q => by subst q; exact hb hDF)]
  have hj0 : Disj F (H.both (PH.one D (listOf ([] : List Value).toArray 0))) := fun b hb => by
    rw [PH.both_right (hj b hb)]; unfold PH.one; rw [if_neg (fun q => by subst q; exact hb hDF)]
  dsimp only
  rw [e0]
  refine ⟨T'.self 0 (nones ns) _ _ hj0 hS, fun k σ' => ∃ i ys H' F' e, σ'.H = (H'.both (PH.one D (listOf ys.toArray e))).both F' ∧ σ'.vs.length = ns.length ∧ H' D = none ∧ Disj F' (H'.both (PH.one D (listOf ys.toArray e))) ∧ S i F' ∧ I i ys H' ∧ i ≤ N ∧ ys.length ≤ i ∧ k = N - i, N,
    ⟨0, [], H, F, 0, rfl, by simp [nones], hDH, hj0, hS, h0, Nat.zero_le _, Nat.le_refl _, rfl⟩, ?_⟩
  rintro k ⟨vs', Hall⟩ ⟨i, ys, H', F', e, e1, hvl, hD1, hj1, hS1, hI, hi, hys, rfl⟩
  dsimp only at e1 hvl; subst e1
  by_cases hlt : i < N
  · refine j_mono (T'.next i vs' _ F' hlt (hmono _ _ (hneed _ _ _ hI)) hj1 hS1) ?_
    rintro r σ' ⟨v, X, F₁, rfl, hv, hdX, hd₁, hσ, hown⟩
    refine j_mono hown ?_
    rintro _ σ₂ ⟨F₂, hS₂, hd₂, rfl⟩
    have hXD : X D = none := by
      cases e : X D with
      | none => rfl
      | some o =>
        have := hdX D (by rw [e]; exact Option.some_ne_none _)
        rw [PH.both_right hD1, PH.one_self] at this; cases this
    have hXH : Disj X H' := fun b hb => by
      have := hdX b hb
      cases e : H' b with
      | none => rfl
      | some o => rw [PH.both_left e] at this; cases this
    have esw : (H'.both (PH.one D (listOf ys.toArray e))).both X = (H'.both X).both (PH.one D (listOf ys.toArray e)) :=
      both_swap fun b hb => by rw [PH.one_ne hb]; exact hXD
    rw [esw] at hd₂ ⊢
    have hD2 : (H'.both X) D = none := by rw [PH.both_right hD1]; exact hXD
    refine j_frame2 (disj_one hD2) hd₂ (j_mono (turn base' L' O' i ys H' X v vs' hlt hvl hI hv hXH) ?_)
    intro _ σ₁ h₁ d1 d2
    refine j_frame2 d1 d2 (j_mono h₁ ?_)
    intro ok σ₂ h₂ d3 d4
    refine ⟨fun hok => ?_, fun hok => ?_⟩
    · refine j_frame2 d3 d4 (j_mono (h₂.1 hok) ?_)
      intro x σ₃ h₃ d5 d6
      have hD3 := disj_at d5
      refine j_append (vs := σ₃.vs) (items := ys) ⟨e, PH.both_left (by rw [PH.both_right hD3, PH.one_self])⟩ (by rw [sizeLine_eq]; omega) fun k' => ?_
      rw [set_in hD3]
      refine ⟨N - (i + 1), by omega, i + 1, ys ++ [x], σ₃.H, F₂, k', rfl, h₃.1, hD3, fun b hb => ?_, hS₂, h₃.2, hlt, by simp; omega, rfl⟩
      rw [PH.both_right (disj_left d6 b hb)]; unfold PH.one; rw [if_neg (fun q => by subst q; exact hb (disj_none d6))]
    · exact ⟨N - (i + 1), by omega, i + 1, ys, σ₂.H, F₂, e, rfl, (h₂.2 hok).1, disj_at d3, d4, hS₂, (h₂.2 hok).2, hlt, by omega, rfl⟩
  · have hN : i = N := by omega
    subst hN
    refine j_mono (T'.stop vs' _ F' (hmono _ _ (hneed _ _ _ hI)) hj1 hS1) ?_
    rintro r σ' ⟨rfl, rfl⟩
    have := done D ys H' e hD1 hI
    rw [set_one hD1] at this
    exact this
end

/-! enumerate(list, 1) -/
section
variable {C : Cx} {σ : Sg} {n : Nat}
open AutoSeq1 (wpAny_loadPart') in
theorem enum_new2 (l : Addr) (items : Array Value) (n : Nat) (dct : Option Addr) (sl : Array (Option Value)) (t : Tok) :
    Meets (Builtin.«enumerate.__new__» ⟨[.type "enumerate", .ref l, .int 1 t], []⟩) (fun _ R s => s.heap.get? l = some { cls := .type "list", dict := dct, data := .seq items n, slots := sl } ∧
      R (.ok (.ret (.ref (s.heap.push { cls := .type "list_iterator", data := .fields #[.ref l, .int 0 0] }).objs.size)))
        { s with heap := (s.heap.push { cls := .type "list_iterator", data := .fields #[.ref l, .int 0 0] }).push { cls := .type "enumerate", data := .fields #[.none, .bool false, .ref s.heap.objs.size, rawInt 1, .none, .none] } }) :=
  .of_wp fun prog w A R s h => by
    obtain ⟨hp, g, d, tk, os⟩ := s; obtain ⟨hl, h⟩ := h
    have hsub := sub_enumerate
    have hL : Heap.IsList (Shared.heap ⟨hp, g, d, tk, os⟩) l items := ⟨_, hl, rfl, n, rfl⟩
    wp_walk using wpAny_loadPart' hl
    refine wpAny_stack_any fun st => wpAny_pure ?_
    split
    · rename_i c _ _ _ _ _
      cases (c == Value.type "enumerate")
      · wp_walk using wpAny_loadPart' hl, wpAny_pyIter_list hL
        exact ⟨_, rfl, h⟩
      · wp_walk using wpAny_loadPart' hl, wpAny_pyIter_list hL
        exact ⟨_, rfl, h⟩
    · wp_walk using wpAny_loadPart' hl, wpAny_pyIter_list hL
      exact ⟨_, rfl, h⟩
theorem typeCall_enum2 (a b : Value) : checkTypeCall "enumerate" ⟨[a, b], []⟩ = Pure.pure () := by kernel_rfl
theorem newCall_enum2 (a b : Value) : checkBuiltinCall "enumerate.__new__" ⟨[.type "enumerate", a, b], []⟩ = Pure.pure () := by kernel_rfl
def enumObj (it : Addr) (i : Int) (a old : Value) : Obj := { cls := .type "enumerate", dict := none, data := .fields #[a, .bool false, .ref it, rawInt i, .none, old], slots := #[] }
def EnumIt (e it l : Addr) (i : Nat) (F : PH) : Prop := e ≠ it ∧ (∃ old, F e = some (enumObj it ((i : Int) + 1) .none old)) ∧ (∃ o : Obj, F it = some o ∧ o.cls = .type "list_iterator" ∧ o.data = .fields #[.ref l, .int (i : Int) 0]) ∧ ∀ b, F b ≠ none → b = e ∨ b = it
theorem enum_draws {prog : Program} {w : World} {A : Around} (hh : A.handled = none) (it l : Addr) (hne : l ≠ it) (items : Array Value) :
    Draws prog w A it [it, l] (items.size + 1) (fun i v => items[i - 1]? = some v) (fun i h => 1 ≤ i ∧ h.IsListIter it l (i - 1) ∧ h.IsList l items) where
  live := fun _ _ st => let ⟨o, ho, _⟩ := st.2.1; ⟨o, ho⟩
  frame := fun _ _ _ st hk => ⟨st.1, st.2.1.at fun o e => hk it (by simp) o e, st.2.2.at fun o e => hk l (by simp) o e⟩
  item := fun i s Q E hi st hQ => by
    have h1 := st.1
    have hi' : i - 1 < items.size := by omega
    refine wpAny_nextOf_list_item st.2.1 st.2.2 (x := items[i - 1]) (by simp [hi']) fun h' hit' hs' => ?_
    refine hQ _ h' s.toks (by simp [hi']) ⟨by omega, ?_, st.2.2.extBut hs'.extBut hne⟩ hs'
    have e : i + 1 - 1 = i - 1 + 1 := by omega
    rw [e]; exact hit'
  done := fun s Q E st hE => wpAny_nextOf_list_end hh st.2.1 st.2.2 (by simp) hE
theorem iter_enum {e it l : Addr} {items : List Value} {elts : List Expr} {k : Nat} {pos : Pos} (O : Ok C n) :
    IterX C (.Tuple elts k pos) (.ref e) items.length (fun i v X => ∃ T t x, v = .ref T ∧ items[i]? = some x ∧ X = PH.one T (tupOf [.int ((i : Int) + 1) t, x] 0)) (fun H => IL H l items) (EnumIt e it l) where
  next := by
    rintro i vs H F hi hl hd ⟨hne, ⟨old, he⟩, ⟨oi, hit, hic, hid⟩, hF⟩
    refine j_mk fun s Q hs q => ?_
    have gF : ∀ b o, F b = some o → s.heap.get? b = some o := fun b o eb => hs.get (by show (H.both F) b = _; rw [PH.both_right (hd b (by rw [eb]; exact Option.some_ne_none _))]; exact eb)
    have hll := hs.isList (hl.le le_both)
    have hlit : l ≠ it := fun e => by
      obtain ⟨o, ho, _⟩ := hl
      have := hd it (by rw [hit]; exact Option.some_ne_none _)
      rw [e, this] at ho; cases ho
    have hle : l ≠ e := fun e => by
      obtain ⟨o, ho, _⟩ := hl
      have := hd _ (by rw [he]; exact Option.some_ne_none _)
      rw [e, this] at ho; cases ho
    refine wpAny_pyNext_enum_itemD (i := i + 1) (enum_draws (show C.A.in1.handled = none from O.hh) it l hlit items.toArray) (old := old) (gF e _ he) ⟨by omega, ⟨oi, gF it _ hit, hic, hid⟩, hll⟩ (by simp; omega) hne (by simp [hne, hle.symm]) fun x h' tk hx hout hst hT hsz hk => ?_
    have hx' : items[i]? = some x := by simpa using hx
    obtain ⟨oi', hit', hic', hid'⟩ := hst.2.1
    have nw : s.heap.get? s.heap.objs.size = none := by
      cases q : s.heap.get? s.heap.objs.size with
      | none => rfl
      | some o => exact absurd (Heap.lt_size q) (Nat.lt_irrefl _)
    have neT : ∀ b o, F b = some o → b ≠ s.heap.objs.size := fun b o eb q => by have := gF b o eb; rw [q, nw] at this; cases this
    have st := step hs hd (X := PH.one s.heap.objs.size (tupOf [.int ((i : Int) + 1) tk, x] 0)) (F' := (PH.one e (enumObj it ((i : Int) + 1 + 1) (rawInt s.heap.objs.size) x)).both (PH.one it oi')) (h' := h')
      (fun b o hb eb => hk b o (fun q => by subst q; rw [he] at hb; cases hb) (fun q => by subst q; rw [hit] at hb; cases hb) eb)
      (fun b o eb => by
        have := PH.one_ne (by rw [eb]; exact Option.some_ne_none _)
        subst this
        rw [PH.one_self] at eb; cases eb
        exact ⟨hT, nw⟩)
      (fun b o eb => by
        by_cases q : b = e
        · subst q
          rw [PH.both_left PH.one_self] at eb; cases eb
          refine ⟨hout, ?_, .inl (by rw [he]; exact Option.some_ne_none _)⟩
          unfold PH.one; rw [if_neg (neT _ _ he)]
        · rw [PH.both_right (by unfold PH.one; rw [if_neg q])] at eb
          have := PH.one_ne (by rw [eb]; exact Option.some_ne_none _)
          subst this
          rw [PH.one_self] at eb; cases eb
          refine ⟨hit', ?_, .inl (by rw [hit]; exact Option.some_ne_none _)⟩
          unfold PH.one; rw [if_neg (neT _ _ hit)])
    refine q _ ⟨vs, _⟩ h' (tk + 1) st.1 st.2.1 ⟨.ref s.heap.objs.size, _, _, rfl, ⟨s.heap.objs.size, tk, x, rfl, hx', rfl⟩, st.2.2.1, st.2.2.2, rfl, ?_⟩
    have ge : ((H.both (PH.one s.heap.objs.size (tupOf [.int ((i : Int) + 1) tk, x] 0))).both ((PH.one e (enumObj it ((i : Int) + 1 + 1) (rawInt s.heap.objs.size) x)).both (PH.one it oi'))) e = some (enumObj it ((i : Int) + 1 + 1) (rawInt s.heap.objs.size) x) := by
      rw [PH.both_right (st.2.2.2 e (by rw [PH.both_left PH.one_self]; exact Option.some_ne_none _)), PH.both_left PH.one_self]
    refine j_mk fun s₂ Q₂ hs₂ q₂ => wpAny_letOwnedTupleGo_enum (hs₂.get ge) fun h₂ he₂ hsb => ?_
    have st₂ := step (X := PH.nil) (F' := (PH.one e (enumObj it ((i : Int) + 1 + 1) .none x)).both (PH.one it oi')) (h' := h₂) hs₂ st.2.2.2
      (fun b o hb eb => (hsb.2 b (fun q => by subst q; rw [PH.both_left PH.one_self] at hb; cases hb)).trans eb) (fun b o eb => by cases eb)
      (fun b o eb => by
        by_cases q : b = e
        · subst q
          rw [PH.both_left PH.one_self] at eb; cases eb
          exact ⟨he₂, rfl, .inl (by rw [PH.both_left PH.one_self]; exact Option.some_ne_none _)⟩
        · rw [PH.both_right (by unfold PH.one; rw [if_neg q])] at eb
          have eF : ((PH.one e (enumObj it ((i : Int) + 1 + 1) (rawInt s.heap.objs.size) x)).both (PH.one it oi')) b = some o := by rw [PH.both_right (by unfold PH.one; rw [if_neg q])]; exact eb
          refine ⟨(hsb.2 b q).trans (hs₂.get ?_), rfl, .inl (by rw [eF]; exact Option.some_ne_none _)⟩
          show (PH.both _ _) b = some o
          rw [PH.both_right (st.2.2.2 b (by rw [eF]; exact Option.some_ne_none _))]; exact eF)
    rw [both_nil] at st₂
    refine q₂ _ ⟨vs, _⟩ h₂ s₂.toks st₂.1 st₂.2.1 ⟨_, ⟨hne, ⟨x, ?_⟩, ⟨oi', ?_, hic', ?_⟩, fun b hb => ?_⟩, st₂.2.2.2, rfl⟩
    · rw [PH.both_left PH.one_self]; simp
    · rw [PH.both_right (by unfold PH.one; rw [if_neg (Ne.symm hne)]), PH.one_self]
    · simpa using hid'
    · by_cases qe : b = e
      · exact .inl qe
      · rw [PH.both_right (by unfold PH.one; rw [if_neg qe])] at hb
        exact .inr (PH.one_ne hb)
  stop := by
    rintro vs H F hl hd ⟨hne, ⟨old, he⟩, ⟨oi, hit, hic, hid⟩, hF⟩
    refine j_mk fun s Q hs q => ?_
    have gF : ∀ b o, F b = some o → s.heap.get? b = some o := fun b o eb => hs.get (by show (H.both F) b = _; rw [PH.both_right (hd b (by rw [eb]; exact Option.some_ne_none _))]; exact eb)
    have hll := hs.isList (hl.le le_both)
    have hlit : l ≠ it := fun e => by
      obtain ⟨o, ho, _⟩ := hl
      have := hd it (by rw [hit]; exact Option.some_ne_none _)
      rw [e, this] at ho; cases ho
    refine wpAny_pyNext_enum_endD (i := items.length + 1) (enum_draws (show C.A.in1.handled = none from O.hh) it l hlit items.toArray) (old := old) (gF e _ he) ⟨by omega, ⟨oi, gF it _ hit, hic, by simpa using hid⟩, hll⟩ fun h' hk => ?_
    have st := step hs hd (X := PH.nil) (F' := PH.nil) (h' := h') (fun b o hb eb => hk b o (fun q => by subst q; rw [hit] at hb; cases hb) eb) (fun b o eb => by cases eb) (fun b o eb => by cases eb)
    rw [both_nil, both_nil] at st
    exact q none ⟨vs, H⟩ h' s.toks st.1 st.2.1 ⟨rfl, rfl⟩
  self := by
    rintro i vs H F hd ⟨hne, ⟨old, he⟩, _, hF⟩
    exact j_same (a := Value.ref e) ⟨rfl, rfl⟩ fun s Q hs q => wpAny_pyIter_enum (hs.get (by show (H.both F) e = _; rw [PH.both_right (hd e (by rw [he]; exact Option.some_ne_none _))]; exact he)) (q s.toks)
theorem j_enum {vs : List (Option Value)} {H : PH} {l : Addr} {t : Tok} {items : List Value} {R : Value → Sg → Prop} (hl : IL H l items) (h : ∀ e it F, Disj F H → EnumIt e it l 0 F → R (.ref e) ⟨vs, H.both F⟩) : J C (PySem.call (.type "enumerate") [.ref l, .int 1 t]) ⟨vs, H⟩ R := by
  refine j_mk fun s Q hs q => ?_
  obtain ⟨⟨c, dct, dt, sl⟩, hlh, hc, nn, hdt⟩ := hs.isList hl
  replace hc : c = .type "list" := hc
  replace hdt : dt = .seq items.toArray nn := hdt
  subst hc hdt
  refine callType_new F.called_enumerate (by decide) (typeCall_enum2 _ _) (newCall_enum2 _ _) (fun obj => F.args_object_init_3 obj _ _) F.entry_enumerate_new (enum_new2 l items.toArray nn dct sl t) ⟨hlh, ?_⟩
  have hz : (s.heap.push { cls := .type "list_iterator", data := .fields #[.ref l, .int 0 0] }).objs.size = s.heap.objs.size + 1 := Heap.size_push ..
  show _ ∧ _
  have p1 := hs.push { cls := .type "list_iterator", data := .fields #[.ref l, .int 0 0] } rfl
  have p2 := p1.push (enumObj s.heap.objs.size 1 .none .none) rfl
  have f1 := Fram.push hs { cls := .type "list_iterator", data := .fields #[.ref l, .int 0 0] }
  have f2 := Fram.push p1 (enumObj s.heap.objs.size 1 .none .none)
  rw [hz] at p2 f2 ⊢
  have n1 : H s.heap.objs.size = none := hs.newAt
  have n2 : (H.set s.heap.objs.size { cls := .type "list_iterator", data := .fields #[.ref l, .int 0 0] }) (s.heap.objs.size + 1) = none := hz ▸ p1.newAt
  have ne : s.heap.objs.size + 1 ≠ s.heap.objs.size := Nat.succ_ne_self _
  have n3 : H (s.heap.objs.size + 1) = none := by rw [PH.set_ne ne] at n2; exact n2
  have e1 : (H.set s.heap.objs.size { cls := .type "list_iterator", data := .fields #[.ref l, .int 0 0] }).set (s.heap.objs.size + 1) (enumObj s.heap.objs.size 1 .none .none) =
      H.both ((PH.one s.heap.objs.size { cls := .type "list_iterator", data := .fields #[.ref l, .int 0 0] }).both (PH.one (s.heap.objs.size + 1) (enumObj s.heap.objs.size 1 .none .none))) := by
    rw [set_one n2, set_one n1]
    funext b
    unfold PH.both
    cases H b <;> rfl
  refine ⟨⟨enumObj s.heap.objs.size 1 .none .none, p2.get PH.set_self, rfl⟩, ?_⟩
  refine q _ _ _ s.toks p2 (f1.trans p1 f2) ?_
  rw [e1]
  refine h _ _ _ (fun b hb => ?_) ⟨ne, ⟨.none, ?_⟩, ⟨_, PH.both_left PH.one_self, rfl, rfl⟩, fun b hb => ?_⟩
  · by_cases qe : b = s.heap.objs.size
    · subst qe; exact n1
    · rw [PH.both_right (by unfold PH.one; rw [if_neg qe])] at hb
      rw [PH.one_ne hb]; exact n3
  · rw [PH.both_right (by unfold PH.one; rw [if_neg ne]), PH.one_self]; rfl
  · by_cases qe : b = s.heap.objs.size
    · exact .inr qe
    · rw [PH.both_right (by unfold PH.one; rw [if_neg qe])] at hb
      exact .inl (PH.one_ne hb)
theorem j_iterEnum {vs : List (Option Value)} {H F : PH} {e it l : Addr} {i : Nat} {R : Value → Sg → Prop} (hd : Disj F H) (hS : EnumIt e it l i F) (h : R (.ref e) ⟨vs, H.both F⟩) : J C (pyIter (.ref e)) ⟨vs, H.both F⟩ R := by
  obtain ⟨hne, ⟨old, he⟩, _, hF⟩ := hS
  exact j_same h fun s Q hs q => wpAny_pyIter_enum (hs.get (by show (H.both F) e = _; rw [PH.both_right (hd e (by rw [he]; exact Option.some_ne_none _))]; exact he)) (q s.toks)
end
end Mine

namespace Mine
section
variable {C : Cx} {σ : Sg} {n : Nat}
theorem neN {a b : Nat} (h : a < b ∨ b < a) : ¬ @Eq Addr a b := fun (q : @Eq Nat a b) => by omega
theorem set_cases {F : PH} {a b : Addr} {o o' : Obj} (e : (F.set a o) b = some o') : (b = a ∧ o' = o) ∨ (b ≠ a ∧ F b = some o') := by
  by_cases q : b = a
  · subst q
    rw [PH.set_self] at e
    exact .inl ⟨rfl, (Option.some.inj e).symm⟩
  · rw [PH.set_ne q] at e
    exact .inr ⟨q, e⟩
theorem get_frame {vs : List (Option Value)} {H F : PH} {h : Heap} (hs : St C ⟨vs, H.both F⟩ h) (hd : Disj F H) {b : Addr} {o : Obj} (e : F b = some o) : h.get? b = some o :=
  hs.get (by show (H.both F) b = _; rw [PH.both_right (hd b (by rw [e]; exact Option.some_ne_none _))]; exact e)
theorem no_size (h : Heap) : h.get? h.objs.size = none := by
  cases q : h.get? h.objs.size with
  | none => rfl
  | some o => exact absurd (Heap.lt_size q) (Nat.lt_irrefl _)
theorem no_over {h : Heap} {b : Addr} (hb : h.objs.size ≤ b) : h.get? b = none := by
  cases q : h.get? b with
  | none => rfl
  | some o => exact absurd (Heap.lt_size q) (Nat.not_lt.mpr hb)

/-! zip of two lists -/
def zipObj (TI TO : Addr) (f : Value) : Obj := { cls := .type "zip", dict := none, data := .fields #[f, .bool false, .bool false, .ref TI, .ref TO], slots := #[] }
structure ZipAt (z TI TO i1 i2 l1 l2 : Addr) (i : Nat) (F : PH) : Prop where
  TIz : TI ≠ z
  TOz : TO ≠ z
  i1z : i1 ≠ z
  i2z : i2 ≠ z
  TITO : TI ≠ TO
  TIi1 : TI ≠ i1
  TIi2 : TI ≠ i2
  TOi1 : TO ≠ i1
  TOi2 : TO ≠ i2
  i12 : i1 ≠ i2
  z : F z = some (zipObj TI TO .none)
  TI : F TI = some (tupOf [.ref i1, .ref i2] 0)
  TO : ∃ a b, F TO = some (tupOf [a, b] 0)
  i1 : ∃ o : Obj, F i1 = some o ∧ o.cls = .type "list_iterator" ∧ o.data = .fields #[.ref l1, .int (i : Int) 0]
  i2 : ∃ o : Obj, F i2 = some o ∧ o.cls = .type "list_iterator" ∧ o.data = .fields #[.ref l2, .int (i : Int) 0]
def ZipIt (z l1 l2 : Addr) (i : Nat) (F : PH) : Prop := ∃ TI TO i1 i2, ZipAt z TI TO i1 i2 l1 l2 i F
theorem not_of_disj {H F : PH} {l b : Addr} {items : List Value} {o : Obj} (hl : IL H l items) (hd : Disj F H) (e : F b = some o) : l ≠ b := fun q => by
  obtain ⟨o', ho, _⟩ := hl
  have := hd b (by rw [e]; exact Option.some_ne_none _)
  rw [q, this] at ho; cases ho
theorem iter_zip {z l1 l2 : Addr} {xs ys : List Value} {elts : List Expr} {k : Nat} {pos : Pos} (O : Ok C n) (hlen : xs.length = ys.length) :
    IterX C (.Tuple elts k pos) (.ref z) xs.length (fun i v X => ∃ T x y, v = .ref T ∧ xs[i]? = some x ∧ ys[i]? = some y ∧ X = PH.one T (tupOf [x, y] 0)) (fun H => IL H l1 xs ∧ IL H l2 ys) (ZipIt z l1 l2) where
  next := by
    rintro i vs H F hi ⟨hl1, hl2⟩ hd ⟨TI, TO, i1, i2, Z⟩
    obtain ⟨a, b, hTO⟩ := Z.TO
    obtain ⟨o1, e1, c1, d1⟩ := Z.i1
    obtain ⟨o2, e2, c2, d2⟩ := Z.i2
    refine j_mk fun s Q hs q => ?_
    have g : ∀ {b o}, F b = some o → s.heap.get? b = some o := fun e => get_frame hs hd e
    have D : ZipApart z TI TO i1 i2 l1 l2 := ⟨Z.TIz, Z.TOz, Z.i1z, Z.i2z, Z.TITO, Z.TIi1, Z.TIi2, Z.TOi1, Z.TOi2, Z.i12, not_of_disj hl1 hd Z.z, not_of_disj hl1 hd hTO, not_of_disj hl1 hd e1, not_of_disj hl1 hd e2,
      not_of_disj hl2 hd Z.z, not_of_disj hl2 hd hTO, not_of_disj hl2 hd e1, not_of_disj hl2 hd e2⟩
    have hx : xs.toArray[i]? = some xs[i] := by simp [hi]
    have hy : ys.toArray[i]? = some (ys[i]'(hlen ▸ hi)) := by simp [hlen ▸ hi]
    refine wpAny_pyNext_zip_item D (g Z.z) (g Z.TI) (g hTO) ⟨o1, g e1, c1, d1⟩ ⟨o2, g e2, c2, d2⟩ (hs.isList (hl1.le le_both)) (hs.isList (hl2.le le_both)) hx hy fun h' hz' hTO' h1' h2' hT hsz hk => ?_
    obtain ⟨o1', e1', c1', d1'⟩ := h1'
    obtain ⟨o2', e2', c2', d2'⟩ := h2'
    have neT : ∀ {b o}, F b = some o → b ≠ s.heap.objs.size := fun eb q => by have := g eb; rw [q, no_size] at this; cases this
    have st := step hs hd (X := PH.one s.heap.objs.size (tupOf [xs[i], ys[i]'(hlen ▸ hi)] 0)) (F' := (((F.set z (zipObj TI TO (rawInt s.heap.objs.size))).set TO (tupOf [xs[i], ys[i]'(hlen ▸ hi)] 0)).set i1 o1').set i2 o2') (h' := h')
      (fun b o hb eb => hk b o (fun q => by subst q; rw [Z.z] at hb; cases hb) (fun q => by subst q; rw [hTO] at hb; cases hb) (fun q => by subst q; rw [e1] at hb; cases hb) (fun q => by subst q; rw [e2] at hb; cases hb) eb)
      (fun b o eb => by
        have := PH.one_ne (by rw [eb]; exact Option.some_ne_none _)
        subst this
        rw [PH.one_self] at eb; cases eb
        exact ⟨hT, no_size _⟩)
      (fun b o eb => by
        have off : ∀ {b o}, F b = some o → (PH.one s.heap.objs.size (tupOf [xs[i], ys[i]'(hlen ▸ hi)] 0)) b = none ∧ (F b ≠ none ∨ s.heap.get? b = none) := fun e => ⟨by unfold PH.one; rw [if_neg (neT e)], .inl (by rw [e]; exact Option.some_ne_none _)⟩
        rcases set_cases eb with ⟨rfl, rfl⟩ | ⟨n1, eb⟩
        · exact ⟨e2', off e2⟩
        rcases set_cases eb with ⟨rfl, rfl⟩ | ⟨n2, eb⟩
        · exact ⟨e1', off e1⟩
        rcases set_cases eb with ⟨rfl, rfl⟩ | ⟨n3, eb⟩
        · exact ⟨hTO', off hTO⟩
        rcases set_cases eb with ⟨rfl, rfl⟩ | ⟨n4, eb⟩
        · exact ⟨hz', off Z.z⟩
        exact ⟨hk b o n4 n3 n2 n1 (g eb), off eb⟩)
    refine q _ ⟨vs, _⟩ h' s.toks st.1 st.2.1 ⟨.ref s.heap.objs.size, _, _, rfl, ⟨s.heap.objs.size, xs[i], ys[i]'(hlen ▸ hi), rfl, by simp [hi], by simp [hlen ▸ hi], rfl⟩, st.2.2.1, st.2.2.2, rfl, ?_⟩
    generalize hX : PH.one s.heap.objs.size (tupOf [xs[i], ys[i]'(hlen ▸ hi)] 0) = X at st ⊢
    generalize hFF : (((F.set z (zipObj TI TO (rawInt s.heap.objs.size))).set TO (tupOf [xs[i], ys[i]'(hlen ▸ hi)] 0)).set i1 o1').set i2 o2' = FF at st ⊢
    have gz : FF z = some (zipObj TI TO (rawInt s.heap.objs.size)) := by rw [← hFF, PH.set_ne (Ne.symm Z.i2z), PH.set_ne (Ne.symm Z.i1z), PH.set_ne (Ne.symm Z.TOz), PH.set_self]
    refine j_mk fun s₂ Q₂ hs₂ q₂ => wpAny_letOwnedTupleGo_zip (get_frame hs₂ st.2.2.2 gz) fun h₂ he₂ hsb => ?_
    have st₂ := step (X := PH.nil) (F' := FF.set z (zipObj TI TO .none)) (h' := h₂) hs₂ st.2.2.2
      (fun b o hb eb => (hsb.2 b (fun q => by subst q; rw [gz] at hb; cases hb)).trans eb) (fun b o eb => by cases eb)
      (fun b o eb => by
        rcases set_cases eb with ⟨rfl, rfl⟩ | ⟨n1, eb⟩
        · exact ⟨he₂, rfl, .inl (by rw [gz]; exact Option.some_ne_none _)⟩
        · exact ⟨(hsb.2 b n1).trans (get_frame hs₂ st.2.2.2 eb), rfl, .inl (by rw [eb]; exact Option.some_ne_none _)⟩)
    rw [both_nil] at st₂
    refine q₂ _ ⟨vs, _⟩ h₂ s₂.toks st₂.1 st₂.2.1 ⟨_, ⟨TI, TO, i1, i2, ⟨Z.TIz, Z.TOz, Z.i1z, Z.i2z, Z.TITO, Z.TIi1, Z.TIi2, Z.TOi1, Z.TOi2, Z.i12, PH.set_self, ?_, ⟨xs[i], ys[i]'(hlen ▸ hi), ?_⟩, ⟨o1', ?_, c1', ?_⟩, ⟨o2', ?_, c2', ?_⟩⟩⟩, st₂.2.2.2, rfl⟩
    · rw [PH.set_ne Z.TIz, ← hFF, PH.set_ne Z.TIi2, PH.set_ne Z.TIi1, PH.set_ne Z.TITO, PH.set_ne Z.TIz]; exact Z.TI
    · rw [PH.set_ne Z.TOz, ← hFF, PH.set_ne Z.TOi2, PH.set_ne Z.TOi1, PH.set_self]
    · rw [PH.set_ne Z.i1z, ← hFF, PH.set_ne Z.i12, PH.set_self]
    · simpa using d1'
    · rw [PH.set_ne Z.i2z, ← hFF, PH.set_self]
    · simpa using d2'
  stop := by
    rintro vs H F ⟨hl1, hl2⟩ hd ⟨TI, TO, i1, i2, Z⟩
    obtain ⟨a, b, hTO⟩ := Z.TO
    obtain ⟨o1, e1, c1, d1⟩ := Z.i1
    obtain ⟨o2, e2, c2, d2⟩ := Z.i2
    refine j_mk fun s Q hs q => ?_
    have g : ∀ {b o}, F b = some o → s.heap.get? b = some o := fun e => get_frame hs hd e
    have D : ZipApart z TI TO i1 i2 l1 l2 := ⟨Z.TIz, Z.TOz, Z.i1z, Z.i2z, Z.TITO, Z.TIi1, Z.TIi2, Z.TOi1, Z.TOi2, Z.i12, not_of_disj hl1 hd Z.z, not_of_disj hl1 hd hTO, not_of_disj hl1 hd e1, not_of_disj hl1 hd e2,
      not_of_disj hl2 hd Z.z, not_of_disj hl2 hd hTO, not_of_disj hl2 hd e1, not_of_disj hl2 hd e2⟩
    refine wpAny_pyNext_zip_end O.hh D (g Z.z) (g Z.TI) (g hTO) ⟨o1, g e1, c1, d1⟩ ⟨o2, g e2, c2, d2⟩ (hs.isList (hl1.le le_both)) (hs.isList (hl2.le le_both)) (.inl (by simp)) fun h' hk => ?_
    have st := step hs hd (X := PH.nil) (F' := PH.nil) (h' := h')
      (fun b o hb eb => hk b o (fun q => by subst q; rw [Z.z] at hb; cases hb) (fun q => by subst q; rw [hTO] at hb; cases hb) (fun q => by subst q; rw [e1] at hb; cases hb) (fun q => by subst q; rw [e2] at hb; cases hb) eb)
      (fun b o eb => by cases eb) (fun b o eb => by cases eb)
    rw [both_nil, both_nil] at st
    exact q none ⟨vs, H⟩ h' s.toks st.1 st.2.1 ⟨rfl, rfl⟩
  self := by
    rintro i vs H F hd ⟨TI, TO, i1, i2, Z⟩
    exact j_same (a := Value.ref z) ⟨rfl, rfl⟩ fun s Q hs q => wpAny_pyIter_zip (get_frame hs hd Z.z) (q s.toks)
theorem j_zip {vs : List (Option Value)} {H : PH} {l1 l2 : Addr} {xs ys : List Value} {R : Value → Sg → Prop} (hl1 : IL H l1 xs) (hl2 : IL H l2 ys) (h : ∀ z F, Disj F H → ZipIt z l1 l2 0 F → R (.ref z) ⟨vs, H.both F⟩) : J C (PySem.call (.type "zip") [.ref l1, .ref l2]) ⟨vs, H⟩ R := by
  refine j_mk fun s Q hs q => call_zip_2 (hs.isList hl1) (hs.isList hl2) fun h' hz hTI hTO h1 h2 hsz hk => ?_
  obtain ⟨o1, e1, c1, d1⟩ := h1
  obtain ⟨o2, e2, c2, d2⟩ := h2
  have st := step (F := PH.nil) (X := PH.nil) (H := H) (vs := vs) (h' := h')
    (F' := ((((PH.nil.set (s.heap.objs.size + 4) (zipObj (s.heap.objs.size + 2) (s.heap.objs.size + 3) .none)).set (s.heap.objs.size + 3) (tupOf [.none, .none] 0)).set (s.heap.objs.size + 2) (tupOf [.ref s.heap.objs.size, .ref (s.heap.objs.size + 1)] 0)).set (s.heap.objs.size + 1) o2).set s.heap.objs.size o1)
    (by rw [both_nil]; exact hs) (fun b hb => absurd rfl hb) (fun b o _ eb => hk b o eb) (fun b o eb => by cases eb)
    (fun b o eb => by
      rcases set_cases eb with ⟨rfl, rfl⟩ | ⟨n1, eb⟩
      · exact ⟨e1, rfl, .inr (no_over (Nat.le_refl _))⟩
      rcases set_cases eb with ⟨rfl, rfl⟩ | ⟨n2, eb⟩
      · exact ⟨e2, rfl, .inr (no_over (Nat.le_add_right _ _))⟩
      rcases set_cases eb with ⟨rfl, rfl⟩ | ⟨n3, eb⟩
      · exact ⟨hTI, rfl, .inr (no_over (Nat.le_add_right _ _))⟩
      rcases set_cases eb with ⟨rfl, rfl⟩ | ⟨n4, eb⟩
      · exact ⟨hTO, rfl, .inr (no_over (Nat.le_add_right _ _))⟩
      rcases set_cases eb with ⟨rfl, rfl⟩ | ⟨n5, eb⟩
      · exact ⟨hz, rfl, .inr (no_over (Nat.le_add_right _ _))⟩
      cases eb)
  rw [both_nil] at st
  refine q _ ⟨vs, _⟩ h' s.toks st.1 st.2.1 (h _ _ st.2.2.2 ⟨s.heap.objs.size + 2, s.heap.objs.size + 3, s.heap.objs.size, s.heap.objs.size + 1,
    ⟨neN (by omega), neN (by omega), neN (by omega), neN (by omega), neN (by omega), neN (by omega), neN (by omega), neN (by omega), neN (by omega), neN (by omega), ?_, ?_, ⟨.none, .none, ?_⟩, ⟨o1, ?_, c1, d1⟩, ⟨o2, ?_, c2, d2⟩⟩⟩)
  · rw [PH.set_ne (neN (by omega)), PH.set_ne (neN (by omega)), PH.set_ne (neN (by omega)), PH.set_ne (neN (by omega)), PH.set_self]
  · rw [PH.set_ne (neN (by omega)), PH.set_ne (neN (by omega)), PH.set_self]
  · rw [PH.set_ne (neN (by omega)), PH.set_ne (neN (by omega)), PH.set_ne (neN (by omega)), PH.set_self]
  · rw [PH.set_self]
  · rw [PH.set_ne (neN (by omega)), PH.set_self]
theorem j_iterZip {vs : List (Option Value)} {H F : PH} {z l1 l2 : Addr} {i : Nat} {R : Value → Sg → Prop} (hd : Disj F H) (hS : ZipIt z l1 l2 i F) (h : R (.ref z) ⟨vs, H.both F⟩) : J C (pyIter (.ref z)) ⟨vs, H.both F⟩ R := by
  obtain ⟨TI, TO, i1, i2, Z⟩ := hS
  exact j_same h fun s Q hs q => wpAny_pyIter_zip (get_frame hs hd Z.z) (q s.toks)

/-! the letters of a str -/
def StrIt (it : Addr) (x : Str) (t : Tok) (i : Nat) (F : PH) : Prop := ∃ o : Obj, F = PH.one it o ∧ o.cls = .type "str_ascii_iterator" ∧ o.data = .fields #[.str x t, .int (i : Int) 0]
theorem iter_str {it : Addr} {x : Str} {t : Tok} (O : Ok C n) : Iter C (.ref it) x.cps.size (fun i v => ∃ c u, x.cps[i]? = some c ∧ v = .str ⟨#[c]⟩ u) (fun _ => True) (StrIt it x t) where
  next := by
    rintro i vs H F hi _ hd ⟨o, rfl, oc, od⟩
    have hn := disj_at hd
    refine j_mk fun s Q hs q => ?_
    have hit : (H.both (PH.one it o)) it = some o := by rw [PH.both_right hn, PH.one_self]
    refine wpAny_pyNext_ascii_item (c := x.cps[i]) ⟨o, hs.get hit, oc, od⟩ (by simp [hi]) fun h' hl' hsb => ?_
    obtain ⟨o', e', oc', od'⟩ := hl'
    have := q (some (.str ⟨#[x.cps[i]]⟩ s.toks)) ⟨vs, (H.both (PH.one it o)).set it o'⟩ h' (s.toks + 1) (hs.upd hit (fun b ob hb eb => (hsb.2 b hb).trans eb) e') (Fram.upd hit fun b ob hb eb => (hsb.2 b hb).trans eb)
      ⟨.str ⟨#[x.cps[i]]⟩ s.toks, PH.one it o', rfl, ⟨x.cps[i], s.toks, by simp [hi], rfl⟩, ⟨o', rfl, oc', by simpa using od'⟩, disj_one hn, by rw [both_set_one hn]⟩
    exact this
  stop := by
    rintro vs H F _ hd ⟨o, rfl, oc, od⟩
    have hn := disj_at hd
    have hit : (H.both (PH.one it o)) it = some o := by rw [PH.both_right hn, PH.one_self]
    exact j_stop hn ⟨rfl, rfl⟩ fun s Q hs q => wpAny_pyNext_ascii_end O.hh ⟨o, hs.get hit, oc, od⟩ (by simp) q
  own := by
    rintro i vs H F target v hj ⟨o, rfl, oc, od⟩
    have hn := disj_at hj
    have hit : (H.both (PH.one it o)) it = some o := by rw [PH.both_right hn, PH.one_self]
    refine j_same (a := ()) rfl fun s Q hs q => ?_
    have go : wpAny (model PySem.Challenge.pw_sw0062_01 C.w) C.A (Pure.pure () : Sem Unit) Q (fun _ _ => False) s := wpAny_pure (q s.toks)
    unfold letOwnedTupleGo
    split
    · cases v with
      | ref a =>
        refine wpAny_bind (wpAny_load (hs.get hit) ?_)
        rw [oc, od]
        exact go
      | _ => exact go
    · cases v with
      | ref a =>
        refine wpAny_bind (wpAny_load (hs.get hit) ?_)
        rw [oc, od]
        exact go
      | _ => exact go
    · exact go
  self := by
    rintro i vs H F hj ⟨o, rfl, oc, od⟩
    have hn := disj_at hj
    have hit : (H.both (PH.one it o)) it = some o := by rw [PH.both_right hn, PH.one_self]
    exact j_same (a := Value.ref it) ⟨rfl, rfl⟩ fun s Q hs q => wpAny_pyIter_striter_ascii ⟨o, hs.get hit, oc, od⟩ (q s.toks)
theorem j_iterStr {vs : List (Option Value)} {H : PH} {x : Str} {t : Tok} {R : Value → Sg → Prop} (hx : x.cps.all (· < 128) = true) (h : ∀ it F, Disj F H → StrIt it x t 0 F → R (.ref it) ⟨vs, H.both F⟩) : J C (pyIter (.str x t)) ⟨vs, H⟩ R :=
  j_mk fun s Q hs q => by
    refine wpAny_pyIter_ascii hx ?_
    have := q _ _ _ s.toks (hs.push { cls := .type "str_ascii_iterator", data := .fields #[.str x t, .int 0 0] } rfl) (Fram.push hs _) (set_one hs.newAt ▸ h s.heap.objs.size (PH.one s.heap.objs.size _) (disj_one hs.newAt) ⟨_, rfl, rfl, rfl⟩)
    exact this

/-! tuples taken apart -/
section
variable {env : Env} {pos : Pos}
def TI (H : PH) (a : Addr) (items : List Value) : Prop := ∃ o, H a = some o ∧ o.cls = .type "tuple" ∧ ∃ n, o.data = .seq items.toArray n
theorem TL.ti {H : PH} {a : Addr} {items : List Value} (h : TL H a items) : TI H a items := let ⟨n, e⟩ := h; ⟨_, e, rfl, n, rfl⟩
theorem St.exts {h h' : Heap} (hs : St C σ h) (hk : Heap.ExtBut h.objs.size h h') : St C σ h' ∧ Fram C σ h σ h' := by
  have k : ∀ b o, h.get? b = some o → h'.get? b = some o := fun b o e => hk b o (Nat.ne_of_lt (Heap.lt_size e)) e
  exact ⟨hs.keeps k, .of_keeps k⟩
theorem j_unpack {t : Addr} {items : List Value} {elts : List Expr} {k : Nat} {R : Unit → Sg → Prop} (O : Ok C n) (ht : TI σ.H t items) (hn : (assignEach elts env).length = items.length) (hstar : (assignEach elts env).findIdx? (·.1) = none)
    (h : J C (assignInOrder ((assignEach elts env).map (·.2)) items) σ R) : J C (assign (.Tuple elts k pos) env (.ref t)) σ R :=
  j_mk fun s Q hs q => by
    obtain ⟨o, e, r⟩ := ht
    refine assign_Tuple_tuple (items := items.toArray) O.hh ⟨o, hs.get e, r⟩ (by rw [List.size_toArray]; exact hn) hstar fun h' hk => ?_
    obtain ⟨s', f'⟩ := hs.exts hk
    exact j_use h (s := { s with heap := h' }) s' fun _ σ₁ h₁ t₁ s₁ f₁ r₁ => q _ σ₁ h₁ t₁ s₁ (f'.trans s' f₁) r₁
theorem j_orderNil {R : Unit → Sg → Prop} (h : R () σ) : J C (assignInOrder [] []) σ R := j_ret h
theorem j_orderCons {t : Value → Sem Unit} {ts : List (Value → Sem Unit)} {x : Value} {xs : List Value} {R : Unit → Sg → Prop} (h : J C (t x) σ fun _ σ₁ => J C (assignInOrder ts xs) σ₁ R) : J C (assignInOrder (t :: ts) (x :: xs)) σ R :=
  j_bind (j_holding h)
theorem j_setTup {elts : List Expr} {k : Nat} {p : Pos} {e : Expr} {R : Flow → Sg → Prop} (h : J C (eval e env) σ fun v σ₁ => J C (assign (.Tuple elts k p) env v) σ₁ fun _ σ₂ => R .next σ₂)
    (hs : swapsWithSole [.Tuple elts k p] e pos.line env = Pure.pure false := by rfl) (hw : swappedStores [.Tuple elts k p] e env = Pure.pure none := by rfl) : J C (exec (.Assign [.Tuple elts k p] e pos) env) σ R :=
  j_mk fun s Q hs0 q => Assign_Tuple (j_use h hs0 fun _ σ₁ h₁ t₁ s₁ f₁ r₁ => j_use r₁ (s := { s with heap := h₁, toks := t₁ }) s₁ fun _ σ₂ h₂ t₂ s₂ f₂ r₂ => q _ σ₂ h₂ t₂ s₂ (f₁.trans s₁ f₂) r₂) hs hw
theorem j_unpackItems {t : Addr} {items : List Value} {m : Nat} {R : List Value → Sg → Prop} (O : Ok C n) (ht : TI σ.H t items) (hn : m = items.length) (h : R items σ) : J C (unpackItems (.ref t) m none) σ R :=
  j_mk fun s Q hs q => by
    obtain ⟨o, e, r⟩ := ht
    have hn' : m = items.toArray.size := by rw [List.size_toArray]; exact hn
    subst hn'
    refine unpackItems_tuple (items := items.toArray) O.hh ⟨o, hs.get e, r⟩ fun h' hk => ?_
    obtain ⟨s', f'⟩ := hs.exts hk
    exact q _ σ h' s.toks s' f' h
theorem j_setTupS {elts : List Expr} {k : Nat} {p : Pos} {e : Expr} {names : List Str} {R : Flow → Sg → Prop} (hw : swappedStores [.Tuple elts k p] e env = Pure.pure (some names))
    (h : J C (eval e env) σ fun v σ₁ => J C (unpackItems v names.length none) σ₁ fun items σ₂ => J C (assignInOrder (names.reverse.map fun n => bindName env n) items.reverse) σ₂ fun _ σ₃ => R .next σ₃)
    (hs : swapsWithSole [.Tuple elts k p] e pos.line env = Pure.pure false := by rfl) : J C (exec (.Assign [.Tuple elts k p] e pos) env) σ R :=
  j_mk fun s Q hs0 q => Assign_Tuple_swapped (j_use h hs0 fun _ σ₁ h₁ t₁ s₁ f₁ r₁ => j_use r₁ (s := { s with heap := h₁, toks := t₁ }) s₁ fun _ σ₂ h₂ t₂ s₂ f₂ r₂ => j_use r₂ (s := { s with heap := h₂, toks := t₂ }) s₂ fun _ σ₃ h₃ t₃ s₃ f₃ r₃ =>
    q _ σ₃ h₃ t₃ s₃ (f₁.trans s₁ (f₂.trans s₂ f₃)) r₃) hs hw
theorem j_bindName {x : Str} {v : Value} {R : Unit → Sg → Prop} (h : J C (storeName env x v) σ R) : J C (bindName env x v) σ R := j_mk fun s Q hs q => wpAny_bindName (j_use h hs q)
end
end
end Mine

namespace Mine
section
variable {C : Cx} {σ : Sg} {n : Nat} {env : Env} {pos : Pos}
/-! slices -/
theorem j_slice {l u st : Option Expr} {vs : List (Option Value)} {H : PH} {R : Value → Sg → Prop} (h : J C (evalPart l env) ⟨vs, H⟩ fun vl σ₁ => J C (evalPart u env) σ₁ fun vu σ₂ => J C (evalPart st env) σ₂ fun vt σ₃ =>
      ∀ a, σ₃.H a = none → R (.ref a) ⟨σ₃.vs, σ₃.H.set a { cls := .type "slice", data := .fields #[vl, vu, vt] }⟩) : J C (eval (.Slice l u st pos) env) ⟨vs, H⟩ R :=
  j_mk fun s Q hs q => wpAny_Slice (j_use h hs fun _ σ₁ h₁ t₁ s₁ f₁ r₁ => j_use r₁ (s := { s with heap := h₁, toks := t₁ }) s₁ fun _ σ₂ h₂ t₂ s₂ f₂ r₂ => j_use r₂ (s := { s with heap := h₂, toks := t₂ }) s₂ fun _ σ₃ h₃ t₃ s₃ f₃ r₃ =>
    q _ _ _ t₃ (s₃.push _ rfl) ((f₁.trans s₁ (f₂.trans s₂ f₃)).trans s₃ (Fram.push s₃ _)) (r₃ _ s₃.newAt))
theorem j_partNone {R : Value → Sg → Prop} (h : R .none σ) : J C (evalPart none env) σ R := j_ret h
theorem j_partSome {e : Expr} {R : Value → Sg → Prop} (h : J C (eval e env) σ R) : J C (evalPart (some e) env) σ R := h
theorem j_sliceL {vs : List (Option Value)} {H : PH} {a sl : Addr} {items : List Value} {vl vu vt : Value} {lo hi st : Option Int} {R : Value → Sg → Prop} (hl : IL H a items) (hs : H sl = some { cls := .type "slice", data := .fields #[vl, vu, vt] })
    (pl : IsPart vl lo) (pu : IsPart vu hi) (ps : IsPart vt st) (h0 : st ≠ some 0) (hz : items.length ≤ sizeLine) (h : ∀ b, H b = none → R (.ref b) ⟨vs, H.set b (listOf (slicePick items.toArray lo hi st) 0)⟩) : J C (getItem (.ref a) (.ref sl)) ⟨vs, H⟩ R :=
  j_mk fun s Q hs' q => wpAny_getItem_list_slice (hs'.isList hl) ⟨_, hs'.get hs, rfl, rfl⟩ pl pu ps h0 (q _ _ _ s.toks (hs'.push (listOf (slicePick items.toArray lo hi st) 0) rfl) (Fram.push hs' _) (h _ hs'.newAt)) (by rw [List.size_toArray]; exact hz)
theorem made_post {m : Made} {R : Value → Sg → Prop} {s : Shared} {Q : Value → Shared → Prop} (hm : (∃ v, m = .val v ∧ R v σ) ∨ (∃ x, m = .str x ∧ x.length ≤ sizeLine ∧ ∀ t, R (.str x t) σ)) (q : ∀ v tk, R v σ → Q v { s with toks := tk }) : m.post Q s := by
  rcases hm with ⟨v, rfl, h⟩ | ⟨x, rfl, hz, h⟩
  · exact q v s.toks h
  · exact ⟨hz, q _ _ (h _)⟩
theorem j_sliceS {x : Str} {t : Tok} {sl : Addr} {l u st : Option (Int × Tok)} {R : Value → Sg → Prop} (hs : σ.H sl = some { cls := .type "slice", data := .fields #[partValue l, partValue u, partValue st] }) (h0 : ((st.map (·.1)).getD 1 == 0) = false)
    (y : Str) (hy : y = ⟨((slicePicked x l u st).filterMap (x.cps[·]?)).toArray⟩) (hyx : (slicePicked x l u st).length = x.length → y = x) (hz : y.length ≤ sizeLine) (h : ∀ t, R (.str y t) σ) : J C (getItem (.str x t) (.ref sl)) σ R :=
  j_mk fun s Q hs' q => wpAny_getItem_str_slice ⟨_, hs'.get hs, rfl, rfl⟩ h0 (made_post (R := R) (σ := σ) (by
    unfold sliceMade
    split
    · rename_i c
      simp only [Bool.and_eq_true, beq_iff_eq] at c
      exact .inl ⟨_, rfl, hyx c.2 ▸ h t⟩
    · exact .inr ⟨_, rfl, hy ▸ hz, hy ▸ h⟩) fun v tk r => q v σ s.heap tk hs' .refl r)

/-! lists -/
theorem j_addL {vs : List (Option Value)} {H : PH} {a b : Addr} {xs ys : List Value} {R : Value → Sg → Prop} (ha : PL H a xs) (hb : PL H b ys) (hz : xs.length + ys.length ≤ sizeLine) (h : ∀ c, H c = none → R (.ref c) ⟨vs, H.set c (listOf (xs ++ ys).toArray 0)⟩) :
    J C (binaryOp .Add (.ref a) (.ref b)) ⟨vs, H⟩ R :=
  j_mk fun s Q hs q => by
    obtain ⟨k, ea⟩ := ha
    obtain ⟨m, eb⟩ := hb
    refine PySem.P.add_list (hs.get ea) (hs.get eb) ?_ (by rw [List.size_toArray, List.size_toArray]; exact hz)
    rw [List.append_toArray]
    exact q _ _ _ s.toks (hs.push (listOf (xs ++ ys).toArray 0) rfl) (Fram.push hs _) (h _ hs.newAt)
theorem foldl_rep (v : Value) : ∀ (k : Nat) (acc : Array Value), List.foldl (fun x1 x2 => x1 ++ x2) acc (List.replicate k #[v]) = acc ++ (List.replicate k v).toArray
  | 0, acc => by simp
  | k + 1, acc => by
    rw [List.replicate_succ, List.foldl_cons, foldl_rep v k, List.replicate_succ]
    apply Array.toList_inj.mp
    simp
theorem j_repL {vs : List (Option Value)} {H : PH} {a : Addr} {v : Value} {k : Int} {t : Tok} {R : Value → Sg → Prop} (ha : PL H a [v]) (h0 : 0 ≤ k) (h1 : k ≤ 1000) (h : ∀ c, H c = none → R (.ref c) ⟨vs, H.set c (listOf (List.replicate k.toNat v).toArray 0)⟩) :
    J C (binaryOp .Mult (.ref a) (.int k t)) ⟨vs, H⟩ R :=
  j_mk fun s Q hs q => by
    obtain ⟨m, ea⟩ := ha
    refine PyProof.Rows.mul_list hs.fr hs.all (hs.get ea) (by omega) (by omega) (by show ([v].toArray.size) * k.toNat ≤ 2 ^ 24; simp; omega) fun h' F N => ?_
    have e : List.foldl (fun x1 x2 => x1 ++ x2) #[] (List.replicate (if ([v].toArray).isEmpty = true then 0 else k.toNat) [v].toArray) = (List.replicate k.toNat v).toArray := by
      rw [show (if ([v].toArray).isEmpty = true then 0 else k.toNat) = k.toNat from by simp, show [v].toArray = #[v] from rfl, foldl_rep]; simp
    rw [e] at N
    have hk := keeps_all (ex := [_]) F N hs.fr
    have hN := N _ (List.mem_cons_self)
    have nb : C.base.get? s.heap.objs.size = none := hN.2.2
    have hn : h'.get? s.heap.objs.size = some (listOf (List.replicate k.toNat v).toArray 0) := hN.1
    have hH := hs.newAt
    refine q _ ⟨vs, H.set s.heap.objs.size (listOf (List.replicate k.toNat v).toArray 0)⟩ h' s.toks ⟨F, fun b o e => ?_⟩ ⟨fun b o e => ?_, fun b o e _ l => hk b o l e⟩ (h _ hH)
    · rcases set_cases e with ⟨rfl, rfl⟩ | ⟨n1, e⟩
      · exact ⟨hn, hN.2.1, nb⟩
      · exact ⟨hk b o (hs.hp b o e).2.1 (hs.get e), (hs.hp b o e).2⟩
    · rcases set_cases e with ⟨rfl, rfl⟩ | ⟨n1, e⟩
      · exact .inr (no_size _)
      · exact .inl (by show H b ≠ none; rw [e]; exact Option.some_ne_none _)
theorem j_tupleOf {vs : List (Option Value)} {H : PH} {a : Addr} {items : List Value} {R : Value → Sg → Prop} (ha : IL H a items) (hz : items.length ≤ sizeLine) (h : ∀ c, H c = none → R (.ref c) ⟨vs, H.set c (tupOf items 0)⟩) : J C (PySem.call (.type "tuple") [.ref a]) ⟨vs, H⟩ R :=
  j_mk fun s Q hs q => call_tuple_list (hs.isList ha) (fun h' hk => by
    have hs' : St C ⟨vs, H⟩ h' := hs.keeps hk
    exact q _ _ _ s.toks (hs'.push (tupOf items 0) rfl) ((Fram.of_keeps hk).trans hs' (Fram.push hs' _)) (h _ hs'.newAt)) (by rw [List.size_toArray]; exact hz)
theorem ints_items : ∀ {vs : List Value} {ns : List Int}, IntsAre vs ns → ∃ xs : List (Int × Tok), vs = xs.map (fun p => Value.int p.1 p.2) ∧ ns = xs.map (·.1) := by
  intro vs ns h
  obtain ⟨xs, e⟩ := h.allInts.items
  refine ⟨xs.toList, ?_, ?_⟩
  · have := congrArg Array.toList e
    simpa [intItems] using this
  · have h1 := h.numsOf
    have h2 : vs = (intItems xs).toList := by rw [← e]
    rw [h2, nums_intItems] at h1
    exact h1.symm
theorem j_sumL {a : Addr} {vs : List Value} {ns : List Int} {R : Value → Sg → Prop} (O : Ok C n) (hl : IL σ.H a vs) (hi : IntsAre vs ns) (h : ∀ t, R (.int ns.sum t) σ) : J C (PySem.call (.builtin "sum") [.ref a]) σ R :=
  j_mk fun s Q hs q => by
    obtain ⟨xs, e⟩ := hi.allInts.items
    have h1 := hi.numsOf
    have h2 : vs = (intItems xs).toList := by rw [← e]
    refine sum_intListG (xs := xs) O.hh (by rw [← e]; exact hs.isList hl) fun h' tk t' hk => ?_
    rw [preSum_eq, List.take_of_length_le (by simp), ← nums_intItems, ← h2, h1]
    exact q _ σ h' tk (hs.keeps hk) (.of_keeps hk) (h t')

/-! strs -/
theorem j_eqS {x y : Str} {t u : Tok} {R : Value → Sg → Prop} (h : R (.bool (x.cps.toList == y.cps.toList)) σ) : J C (compareOp .Eq (.str x t) (.str y u)) σ R := j_mk fun s Q hs q => PySem.P.eq_str (q _ σ s.heap s.toks hs .refl h)
theorem j_addS {x y : Str} {t u : Tok} {R : Value → Sg → Prop} (hz : (x ++ y).length ≤ sizeLine) (h : ∀ t, R (.str (x ++ y) t) σ) : J C (binaryOp .Add (.str x t) (.str y u)) σ R :=
  j_mk fun s Q hs q => PySem.P.add_str (made_post (R := R) (σ := σ) (by
    have e1 : x.length = 0 → x ++ y = y := fun e => by
      obtain ⟨⟨l⟩⟩ := x
      have : l = [] := List.eq_nil_of_length_eq_zero e
      subst this
      show (⟨#[] ++ y.cps⟩ : Str) = y
      simp
    have e2 : y.length = 0 → x ++ y = x := fun e => by
      obtain ⟨⟨l⟩⟩ := y
      have : l = [] := List.eq_nil_of_length_eq_zero e
      subst this
      show (⟨x.cps ++ #[]⟩ : Str) = x
      simp
    split
    · rename_i c
      exact .inl ⟨_, rfl, e1 (by simpa using c) ▸ h u⟩
    · split
      · rename_i c
        exact .inl ⟨_, rfl, e2 (by simpa using c) ▸ h t⟩
      · exact .inr ⟨_, rfl, hz, h⟩) fun v tk r => q v σ s.heap tk hs .refl r)
theorem j_itemS {x : Str} {i : Int} {c : Nat} {t u : Tok} {R : Value → Sg → Prop} (h0 : 0 ≤ i) (h1 : i < 1000) (hc : x.cps[i.toNat]? = some c) (h : ∀ t, R (.str ⟨#[c]⟩ t) σ) : J C (getItem (.str x t) (.int i u)) σ R :=
  j_mk fun s Q hs q => PySem.P.getItem_str (c := c) (by simp only [Bool.or_eq_false_iff, decide_eq_false_iff_not]; omega) (by
    have hl : i.toNat < x.length := by
      by_cases hh : i.toNat < x.cps.size
      · exact hh
      · rw [Array.getElem?_eq_none (by omega)] at hc; cases hc
    have e : seqIndex? i x.length = some i.toNat := by
      have hl' : (i.toNat : Int) < x.length := by exact_mod_cast hl
      unfold seqIndex?
      simp only [show ¬ i < 0 from by omega, if_false]
      exact if_pos (by simp; omega)
    rw [e]; exact hc) (q _ σ s.heap (s.toks + 1) hs .refl (h _))
theorem j_lenS {x : Str} {t : Tok} {R : Value → Sg → Prop} (hz : (x.length : Int) < 2 ^ 63) (h : ∀ t, R (.int x.length t) σ) : J C (PySem.call (.builtin "len") [.str x t]) σ R := j_mk fun s Q hs q => PySem.P.len_str (by omega) (q _ σ s.heap _ hs .refl (h _))
theorem j_truthyS {x : Str} {t : Tok} {R : Bool → Sg → Prop} (hz : (x.length : Int) < 2 ^ 63) (h : R ((x.length : Int) != 0) σ) : J C (truthy (.str x t)) σ R := j_mk fun s Q hs q => PySem.P.truthy_str (by omega) (q _ σ s.heap _ hs .refl h)
theorem j_notInS {x y : Str} {t u : Tok} {R : Value → Sg → Prop} (h : R (.bool (!(!(Builtin.Str.occurrences x y 0 x.length 1).isEmpty))) σ) : J C (compareOp .NotIn (.str y u) (.str x t)) σ R := j_mk fun s Q hs q => PySem.P.notIn_str (q _ σ s.heap s.toks hs .refl h)
section
variable {x : Str} {t : Tok} {pl : Sem Bool} {p : Pos} {tr : List (Bool × Sem Value)} {kw : List (Option Str × Sem Value)} {R : Value → Sg → Prop}
theorem j_gmS {nm : Str} {id : String} (slot : Slot "str" nm id) (ty : typeOf (.builtin id) = Pure.pure (.type "method_descriptor")) (h : J C (callWith p (.builtin id) [.str x t] tr kw) σ R) :
    J C (getMethod (.str x t) nm pl) σ fun fx σ₂ => J C (callWith p fx.1 fx.2 tr kw) σ₂ R :=
  j_mk fun s Q hs q => GM.of (.str x t) (typeIs_str _ _ _) slot ty GM.noRef (q (Value.builtin id, [Value.str x t]) σ s.heap s.toks hs .refl h)
theorem j_gmStarts (h : J C (callWith p (.builtin "str.startswith") [.str x t] tr kw) σ R) : J C (getMethod (.str x t) (Str.ofString "startswith") pl) σ fun fx σ₂ => J C (callWith p fx.1 fx.2 tr kw) σ₂ R := by with_reducible exact j_gmS F.slot_str_startswith F.type_str_startswith h
theorem j_gmEnds (h : J C (callWith p (.builtin "str.endswith") [.str x t] tr kw) σ R) : J C (getMethod (.str x t) (Str.ofString "endswith") pl) σ fun fx σ₂ => J C (callWith p fx.1 fx.2 tr kw) σ₂ R := by with_reducible exact j_gmS F.slot_str_endswith F.type_str_endswith h
theorem j_gmFind (h : J C (callWith p (.builtin "str.find") [.str x t] tr kw) σ R) : J C (getMethod (.str x t) (Str.ofString "find") pl) σ fun fx σ₂ => J C (callWith p fx.1 fx.2 tr kw) σ₂ R := by with_reducible exact j_gmS F.slot_str_find F.type_str_find h
theorem j_gmSplit (h : J C (callWith p (.builtin "str.split") [.str x t] tr kw) σ R) : J C (getMethod (.str x t) (Str.ofString "split") pl) σ fun fx σ₂ => J C (callWith p fx.1 fx.2 tr kw) σ₂ R := by with_reducible exact j_gmS F.slot_str_split F.type_str_split h
theorem j_gmCount (h : J C (callWith p (.builtin "str.count") [.str x t] tr kw) σ R) : J C (getMethod (.str x t) (Str.ofString "count") pl) σ fun fx σ₂ => J C (callWith p fx.1 fx.2 tr kw) σ₂ R := by with_reducible exact j_gmS F.slot_str_count F.type_str_count h
end
theorem j_starts {x y : Str} {t u : Tok} {R : Value → Sg → Prop} (h : R (.bool (Txt.startswith x y)) σ) : J C (PySem.call (.builtin "str.startswith") [.str x t, .str y u]) σ R := j_mk fun s Q hs q => SC.startswith (q _ σ s.heap s.toks hs .refl h)
theorem j_ends {x y : Str} {t u : Tok} {R : Value → Sg → Prop} (h : R (.bool (Txt.endswith x y)) σ) : J C (PySem.call (.builtin "str.endswith") [.str x t, .str y u]) σ R := j_mk fun s Q hs q => SC.endswith (q _ σ s.heap s.toks hs .refl h)
theorem j_count {x y : Str} {t u : Tok} {R : Value → Sg → Prop} (h : ∀ t, R (.int (Txt.count x y) t) σ) : J C (PySem.call (.builtin "str.count") [.str x t, .str y u]) σ R := j_mk fun s Q hs q => SC.count (q _ σ s.heap (s.toks + 1) hs .refl (h _))
def find4 (x y : Str) (i j : Int) : Int := match Builtin.Str.occurrences x y (fromIndex x.length i) (min (fromIndex x.length j) x.length) 1 with | k :: _ => (k : Int) | [] => -1
theorem gives_find4 (x y : Str) (i j : Int) (t u v v' : Tok) : Gives (Builtin.«str.find» ⟨[.str x t, .str y u, .int i v, .int j v'], []⟩) (.int (find4 x y i j)) := by
  show Gives (match Builtin.Str.occurrences x y (fromIndex x.length i) (min (fromIndex x.length j) x.length) 1 with | k :: _ => retInt k | [] => (do rule "str.find.not-found"; retInt (-1))) _
  unfold find4
  cases Builtin.Str.occurrences x y (fromIndex x.length i) (min (fromIndex x.length j) x.length) 1 with
  | nil => exact .rule (.of_eq rfl)
  | cons k _ => exact .of_eq rfl
theorem j_find4 {x y : Str} {i j : Int} {t u v v' : Tok} {R : Value → Sg → Prop} (h : ∀ t, R (.int (find4 x y i j) t) σ) : J C (PySem.call (.builtin "str.find") [.str x t, .str y u, .int i v, .int j v']) σ R :=
  j_mk fun s Q hs q => call_gives F.slot_str_find (typeIs_str _ _ _) F.entry_str_find (F.args_str_find_4 _ _ _ _) (gives_find4 x y i j t u v v') (q _ σ s.heap (s.toks + 1) hs .refl (h _))
/-- strs in a list, whatever their tokens -/
def StrsAre' (vs : List Value) (xs : List Str) : Prop := ∃ l : List (Str × Tok), vs = strValues l ∧ l.map (·.1) = xs
theorem j_split {vs : List (Option Value)} {H : PH} {x y : Str} {t u : Tok} {R : Value → Sg → Prop} (hy : (y.length == 0) = false) (hz : x.length ≤ sizeLine) (hz2 : (Builtin.Str.partsBetween x (Builtin.Str.occurrences x y 0 x.length (x.length + 1)) y.length).length ≤ sizeLine)
    (h : ∀ a items, H a = none → StrsAre' items (Txt.split x y) → R (.ref a) ⟨vs, H.set a (listOf items.toArray 0)⟩) : J C (PySem.call (.builtin "str.split") [.str x t, .str y u]) ⟨vs, H⟩ R := by
  refine j_mk fun s Q hs q => ?_
  have fin : ∀ (l : List (Str × Tok)) (tk : Nat), l.map (·.1) = Txt.split x y → Q (.ref s.heap.objs.size) { s with heap := s.heap.push (listOf (strValues l).toArray 0), toks := tk } := fun l tk e =>
    q _ _ _ tk (hs.push (listOf (strValues l).toArray 0) rfl) (Fram.push hs _) (h _ _ hs.newAt ⟨l, rfl, e⟩)
  cases h1 : (decide (x.length < y.length) || decide (Builtin.Str.strKind x < Builtin.Str.strKind y))
  · cases hf : (Builtin.Str.occurrences x y 0 x.length (x.length + 1)).isEmpty
    · refine call_meets F.slot_str_split (typeIs_str _ _ _) F.entry_str_split (F.args_str_split_2 _ _) (meets_str_split_sep x y t u h1 hy hf hz hz2) ?_
      show wants Q (fun _ _ => False) _ { s with toks := _, heap := s.heap.push { cls := .type "list", data := .seq (strsFrom s.toks (Builtin.Str.partsBetween x (Builtin.Str.occurrences x y 0 x.length (x.length + 1)) y.length)).toArray } }
      rw [strsFrom_eq]
      exact fin (numbered s.toks _) _ ((numbered_texts _ _).trans ((if_neg (ne_true_of_eq_false h1)).trans (if_neg (ne_true_of_eq_false hf))).symm)
    · exact call_meets F.slot_str_split (typeIs_str _ _ _) F.entry_str_split (F.args_str_split_2 _ _) (meets_str_split_not_found x y t u h1 hy hf) (fin [(x, t)] s.toks ((if_neg (ne_true_of_eq_false h1)).trans (if_pos hf)).symm)
  · exact call_meets F.slot_str_split (typeIs_str _ _ _) F.entry_str_split (F.args_str_split_2 _ _) (meets_str_split_cannot_occur x y t u h1) (fin [(x, t)] s.toks (if_pos h1).symm)
end
end Mine

namespace Mine
example : True := by
  k_with "j" => (first
    | ((with_reducible show J _ (exec (PySem.Stmt.Assign [PySem.Expr.Subscript _ _ _] _ _) _) _ _); refine j_asgSub ?_ (by rfl))
    | ((with_reducible show J _ (exec (PySem.Stmt.AugAssign (PySem.Expr.Subscript _ _ _) _ _ _) _) _ _); refine j_augSub ?_ (by intros; rfl))
    | (with_reducible refine j_delSub ?_)
    | (with_reducible refine j_assert ?_)
    | ((with_reducible show J _ (exec (PySem.Stmt.Expr _ _) _) _ _); refine j_expr ?_ (by rfl) (by rfl))
    | ((with_reducible show J _ (exec (PySem.Stmt.Assign [PySem.Expr.Attribute _ _ _] _ _) _) _ _); refine j_asgAttr ?_ (by rfl))
    | ((with_reducible show J _ (exec (PySem.Stmt.Assign [_, _, _] _ _) _) _ _); refine j_three ?_ (by rfl) (by rfl))
    | ((with_reducible show J _ (exec (PySem.Stmt.Assign [PySem.Expr.Tuple _ _ _] _ _) _) _ _); refine j_setTup ?_ (by rfl) (by rfl))
    | ((with_reducible show J _ (eval (PySem.Expr.Subscript _ _ _) _) _ _); refine j_sub ?_)
    | (with_reducible refine j_isB ?_)
    | (with_reducible refine j_isNotB ?_)
    | (with_reducible refine j_bindName ?_)
    | (with_reducible refine j_orderCons ?_)
    | (with_reducible refine j_orderNil ?_)
    | (with_reducible refine j_partNone ?_)
    | (with_reducible refine j_partSome ?_)
    | (with_reducible refine j_eqS ?_)
    | ((with_reducible show J _ (eval (PySem.Expr.Call (PySem.Expr.Attribute _ _ _) _ _ _) _) _ _); refine j_methCall ?_ (by rfl))
    | ((with_reducible refine j_count ?_); intro _)
    | (with_reducible refine j_starts ?_)
    | (with_reducible refine j_ends ?_)
    | ((with_reducible refine j_find4 ?_); intro _)
    | (with_reducible refine j_gmStarts ?_)
    | (with_reducible refine j_gmEnds ?_)
    | (with_reducible refine j_gmFind ?_)
    | (with_reducible refine j_gmSplit ?_)
    | (with_reducible refine j_gmCount ?_))
  trivial
end Mine
namespace Mine
/-! dicts with int keys -/
def DL (C : Cx) (H : PH) (d : Addr) (kvs : List (Int × Value)) : Prop := (d == sysModules) = false ∧ ∃ o, H d = some o ∧ o.IsDictOf (intKind PySem.Challenge.pw_sw0062_01 C.w) kvs
theorem DL.le {C : Cx} {H H' : PH} {d : Addr} {kvs : List (Int × Value)} (h : DL C H d kvs) (l : H.le H') : DL C H' d kvs := ⟨h.1, let ⟨o, e, r⟩ := h.2; ⟨o, l _ _ e, r⟩⟩
section
variable {C : Cx} {σ : Sg} {n : Nat} {env : Env} {pos : Pos}
theorem St.isDict {h : Heap} (hs : St C σ h) {d : Addr} {kvs : List (Int × Value)} (hD : DL C σ.H d kvs) : h.DictOf (intKind PySem.Challenge.pw_sw0062_01 C.w) d kvs := let ⟨o, e, r⟩ := hD.2; Heap.dictOf_iff.mpr ⟨o, hs.get e, r⟩
theorem j_newD {vs : List (Option Value)} {H : PH} {R : Value → Sg → Prop} (O : Ok C n) (h : ∀ d o, H d = none → DL C (H.set d o) d [] → R (.ref d) ⟨vs, H.set d o⟩) : J C (eval (.Dict [] [] pos) env) ⟨vs, H⟩ R :=
  j_mk fun s Q hs q => by
    refine wpAny_Dict_empty ?_
    have hD : (s.heap.push { cls := .type "dict", data := .dict #[] }).DictOf (intKind PySem.Challenge.pw_sw0062_01 C.w) s.heap.objs.size [] := Heap.DictOf.new (knd := intKind PySem.Challenge.pw_sw0062_01 C.w) s.heap
    refine q _ _ _ s.toks (hs.push { cls := .type "dict", data := .dict #[] } rfl) (Fram.push hs _) (h _ _ hs.newAt ⟨?_, _, PH.set_self, ?_⟩)
    · obtain ⟨_, _, _, T⟩ := O.T
      have := modules_low (T.nolimit.keeps hs.fr.keep)
      exact beq_eq_false_iff_ne.mpr (Nat.ne_of_gt this)
    · obtain ⟨o, e, r⟩ := Heap.dictOf_iff.mp hD
      rw [Heap.get?_push_size _ rfl] at e
      cases e
      exact r
theorem j_setD {vs : List (Option Value)} {H : PH} {d : Addr} {kvs : List (Int × Value)} {k : Int} {t : Tok} {v : Value} {R : Unit → Sg → Prop} (hD : DL C H d kvs) (hz : kvs.length ≤ sizeLine)
    (h : ∀ o', DL C (H.set d o') d (stored kvs k v) → R () ⟨vs, H.set d o'⟩) : J C (setItem (.ref d) (.int k t) v) ⟨vs, H⟩ R :=
  j_mk fun s Q hs q => wpAny_setItem_pairs (k := k) (intKind_is _ _ k t) (hs.isDict hD) (fun h' hD' hsb => by
    obtain ⟨o', e', r'⟩ := Heap.dictOf_iff.mp hD'
    obtain ⟨o, e, r⟩ := hD.2
    exact q () ⟨vs, H.set d o'⟩ h' (s.toks + 1) (hs.upd e (fun b ob hb eb => (hsb.2 b hb).trans eb) e') (Fram.upd e fun b ob hb eb => (hsb.2 b hb).trans eb) (h o' ⟨hD.1, o', PH.set_self, r'⟩)) hz
theorem j_getD {d : Addr} {kvs : List (Int × Value)} {k : Int} {t : Tok} {v : Value} {R : Value → Sg → Prop} (hD : DL C σ.H d kvs) (hv : valueAt kvs k = some v) (h : R v σ) : J C (getItem (.ref d) (.int k t)) σ R :=
  j_mk fun s Q hs q => wpAny_getItem_of (k := k) (f := valueAt kvs) (intKind_is _ _ k t) (hs.isDict hD).mapOf hv (q _ σ s.heap (s.toks + 1) hs .refl h)
theorem j_lenD {d : Addr} {kvs : List (Int × Value)} {R : Value → Sg → Prop} (hD : DL C σ.H d kvs) (hz : (kvs.length : Int) < 2 ^ 63) (h : ∀ t, R (.int kvs.length t) σ) : J C (PySem.call (.builtin "len") [.ref d]) σ R :=
  j_mk fun s Q hs q => call_len_dict hD.1 (hs.isDict hD) hz (q _ σ s.heap _ hs .refl (h _))
theorem subs_D {d : Addr} {kvs : List (Int × Value)} (hD : DL C σ.H d kvs) : Subs C (.ref d) σ := fun s hs => ⟨"dict", _, slot_dict_getitem.lookup, (hs.isDict hD).typeIs⟩
theorem j_truthyI {a : Int} {t : Tok} {R : Bool → Sg → Prop} (h : R (a != 0) σ) : J C (truthy (.int a t)) σ R := j_mk fun s Q hs q => PySem.P.truthy_int (q _ σ s.heap s.toks hs .refl h)
theorem stored_new {kvs : List (Int × Value)} {k : Int} {v : Value} (h : ∀ p ∈ kvs, p.1 ≠ k) : stored kvs k v = kvs ++ [(k, v)] := by
  unfold stored
  rw [if_neg]
  simp only [List.any_eq_true, decide_eq_true_eq, not_exists, not_and]
  exact h
end
end Mine

namespace Mine
section
variable {C : Cx} {σ : Sg} {n : Nat} {env : Env} {pos : Pos}
/-! instances of the class -/
theorem St.liftNew {vs : List (Option Value)} {H : PH} {h h' : Heap} {o : Obj} (hs : St C ⟨vs, H⟩ h) (F : Fr C.base C.L h' (look C.ns vs)) (N : News C.base C.L h' ([(h.objs.size, o)] ++ allNews C h)) : St C ⟨vs, H.set h.objs.size o⟩ h' ∧ Fram C ⟨vs, H⟩ h ⟨vs, H.set h.objs.size o⟩ h' := by
  have hk := keeps_all F N hs.fr
  refine ⟨⟨F, fun b ob e => ?_⟩, ⟨fun b ob e => ?_, fun b ob e _ l => hk b ob l e⟩⟩
  · rcases set_cases e with ⟨rfl, rfl⟩ | ⟨n1, e⟩
    · exact N _ List.mem_cons_self
    · exact ⟨hk b ob (hs.hp b ob e).2.1 (hs.get e), (hs.hp b ob e).2⟩
  · rcases set_cases e with ⟨rfl, rfl⟩ | ⟨n1, e⟩
    · exact .inr (no_size _)
    · exact .inl (by show H b ≠ none; rw [e]; exact Option.some_ne_none _)
theorem j_addLI {vs : List (Option Value)} {H : PH} {a b : Addr} {xs ys : List Value} {R : Value → Sg → Prop} (ha : IL H a xs) (hb : IL H b ys) (hz : xs.length + ys.length ≤ sizeLine) (h : ∀ c, H c = none → R (.ref c) ⟨vs, H.set c (listOf (xs ++ ys).toArray 0)⟩) :
    J C (binaryOp .Add (.ref a) (.ref b)) ⟨vs, H⟩ R :=
  j_mk fun s Q hs q => PyProof.Rows.add_lists hs.fr hs.all (hs.isList ha) (hs.isList hb) (fun h' F N => let st := hs.liftNew F N; q _ _ h' s.toks st.1 st.2 (h _ hs.newAt)) hz
theorem getL_put (nm name : Str) (hsh : Int) (t : Tok) (v : Value) : ∀ es : List DictEntry, getL nm (putL name hsh (.str name t) v es) = if nm = name then some (some v) else getL nm es
  | [] => by
    unfold putL getL
    by_cases h : nm = name
    · subst h; simp [Value.isStr]
    · simp [Value.isStr, h, Ne.symm h, DictEntry.refKey]
  | e :: r => by
    have ih := getL_put nm name hsh t v r
    unfold putL
    cases hk : e.key.isStr name with
    | true =>
      rw [if_pos rfl]
      by_cases h : nm = name
      · subst h; rw [if_pos rfl]; unfold getL; rw [List.find?_cons, hk]
      · rw [if_neg h]; unfold getL; rw [List.find?_cons, List.find?_cons, isStr_other h e hk]; rfl
    | false =>
      rw [if_neg Bool.false_ne_true]
      unfold getL at ih ⊢
      rw [List.find?_cons, List.find?_cons]
      cases hn : e.key.isStr nm with
      | true =>
        have h : ¬ nm = name := fun q => by rw [q, hk] at hn; cases hn
        rw [if_neg h]
      | false =>
        by_cases h : nm = name
        · rw [if_pos h] at ih ⊢
          cases hf : (putL name hsh (Value.str name t) v r).find? (fun x => x.key.isStr nm) with
          | some e2 => rw [hf] at ih; exact ih
          | none =>
            rw [hf] at ih
            dsimp only at ih
            split at ih <;> cases ih
        · rw [if_neg h] at ih ⊢
          cases hf : (putL name hsh (Value.str name t) v r).find? (fun x => x.key.isStr nm) <;> cases hg : r.find? (fun x => x.key.isStr nm) <;> rw [hf, hg] at ih <;> dsimp only at ih ⊢
          · have e2 : ((putL name hsh (Value.str name t) v r).any fun x => x.refKey) = r.any fun x => x.refKey := by
              by_cases h1 : ((putL name hsh (Value.str name t) v r).any fun x => x.refKey) = true <;> by_cases h2 : (r.any fun x => x.refKey) = true
              · rw [h1, h2]
              · rw [if_pos h1, if_neg h2] at ih; cases ih
              · rw [if_neg h1, if_pos h2] at ih; cases ih
              · rw [Bool.of_not_eq_true h1, Bool.of_not_eq_true h2]
            have e3 : ((e :: putL name hsh (Value.str name t) v r).any fun x => x.refKey) = (e :: r).any fun x => x.refKey := congrArg (e.refKey || ·) e2
            rw [e3]
          · split at ih <;> cases ih
          · split at ih <;> cases ih
          · exact ih
theorem putL_length (name : Str) (hsh : Int) (key v : Value) : ∀ es : List DictEntry, (putL name hsh key v es).length ≤ es.length + 1
  | [] => Nat.le_refl _
  | e :: r => by
    unfold putL
    split
    · exact Nat.le_succ _
    · exact Nat.succ_le_succ (putL_length name hsh key v r)
def AttrsAre (es : List DictEntry) (l : List (Str × Value)) : Prop := es.length ≤ l.length ∧ ∀ nm, getL nm es = some (l.lookup nm)
def Inst (H : PH) (x dx : Addr) (l : List (Str × Value)) : Prop := H x = some (instObj 83 dx) ∧ ∃ es k, H dx = some (dictOf es k) ∧ AttrsAre es l
theorem Inst.le {H H' : PH} {x dx : Addr} {l : List (Str × Value)} (h : Inst H x dx l) (hl : H.le H') : Inst H' x dx l := ⟨hl _ _ h.1, let ⟨es, k, e, r⟩ := h.2; ⟨es, k, hl _ _ e, r⟩⟩
theorem St.inst {h : Heap} (hs : St C σ h) {x dx : Addr} {es : List DictEntry} {k : Nat} (h1 : σ.H x = some (instObj 83 dx)) (h2 : σ.H dx = some (dictOf es k)) : PySem.W.InstAt h x (instObj 83 dx) 83 (some (dictOf es k)) := ⟨hs.get h1, rfl, rfl, hs.get h2⟩
theorem IL.setI {H : PH} {x dx a : Addr} {l : List (Str × Value)} {items : List Value} {o : Obj} (h : IL H a items) (I : Inst H x dx l) : IL (H.set dx o) a items := by
  obtain ⟨o1, e, c, r⟩ := h
  obtain ⟨_, es, k, e2, _⟩ := I
  exact ⟨o1, by rw [PH.set_ne (fun q => by rw [q, e2] at e; cases e; obtain ⟨_, r⟩ := r; cases r)]; exact e, c, r⟩
theorem TL.setI {H : PH} {x dx a : Addr} {l : List (Str × Value)} {items : List Value} {o : Obj} (h : TL H a items) (I : Inst H x dx l) : TL (H.set dx o) a items := by
  obtain ⟨n, e⟩ := h
  obtain ⟨_, es, k, e2, _⟩ := I
  exact ⟨n, by rw [PH.set_ne (fun q => by rw [q, e2] at e; cases congrArg Obj.data (Option.some.inj e))]; exact e⟩
theorem j_attr {o : Expr} {x : Str} {R : Value → Sg → Prop} (h : J C (eval o env) σ fun ov σ₁ => J C (getAttr ov x true) σ₁ R) (he : attributeBase o x env (eval o env) = eval o env := by rfl) : J C (eval (.Attribute o x pos) env) σ R := by
  rw [arm_eval_Attribute, he]
  exact j_bind (j_mono h fun ov σ₁ h₁ => j_bind (j_standAt (j_bind (j_holding (j_mono h₁ fun r σ₃ h₃ => j_bind (j_same (R := fun _ σ' => J C (Pure.pure r : Sem Value) σ' R) (j_ret h₃) fun s Q hs q => wpAny_letTemporaryGo (q s.toks)))))))
theorem j_getOwn {x dx : Addr} {l : List (Str × Value)} {name : Str} {v : Value} {attr : Option Value} {ex : Bool} {R : Value → Sg → Prop} (O : Ok C n) (I : Inst σ.H x dx l) (hg : plainGet (Mine.HeapK C.w.params) 83 name = true)
    (hh : hasDictIn (Mine.HeapK C.w.params) 83 = true) (ha : findIn (Mine.HeapK C.w.params) (.ref 83) name = some attr) (hn : noGet (Mine.HeapK C.w.params) attr = true) (hl : l.lookup name = some v) (hv : handedIn v = true) (h : R v σ) :
    J C (getAttr (.ref x) name ex) σ R := j_mk fun s Q hs q => let ⟨h1, es, k, h2, h3⟩ := I; get_own hs.fr O.X (hs.inst h1 h2) hg hh ha hn ((h3.2 name).trans (congrArg some hl)) hv (q v σ s.heap _ hs .refl h)
theorem j_clsVal {name : Str} {a mc : Value} {ex : Bool} {R : Value → Sg → Prop} (O : Ok C n) (hm : typeIn (Mine.HeapK C.w.params) (.ref 83) = some mc) (hr : readsIn (Mine.HeapK C.w.params) 83 mc = true) (e : findCls (Mine.HeapK C.w.params) (.ref 83) mc name = some (.val a)) (hh : handedIn a = true) (h : R a σ) :
    J C (getAttr (.ref 83) name ex) σ R := j_mk fun s Q hs q => cls_val hs.fr O.X hm hr e hh (q a σ s.heap _ hs .refl h)
theorem j_methInst {x dx f : Addr} {l : List (Str × Value)} {name : Str} {pl : Sem Bool} {p : Pos} {tr : List (Bool × Sem Value)} {kw : List (Option Str × Sem Value)} {R : Value → Sg → Prop} (O : Ok C n) (I : Inst σ.H x dx l) (hg : plainGet (Mine.HeapK C.w.params) 83 name = true)
    (hf : findIn (Mine.HeapK C.w.params) (.ref 83) name = some (some (.ref f))) (ht : isFn (Mine.HeapK C.w.params) (.ref f) = true) (hl : l.lookup name = none) (h : J C (callWith p (.ref f) [.ref x] tr kw) σ R) :
    J C (getMethod (.ref x) name pl) σ fun fx σ₂ => J C (callWith p fx.1 fx.2 tr kw) σ₂ R :=
  j_mk fun s Q hs q => let ⟨h1, es, k, h2, h3⟩ := I; method_inst hs.fr O.X (hs.inst h1 h2) hg hf ht ((h3.2 name).trans (congrArg some hl)) (q (Value.ref f, [Value.ref x]) σ s.heap s.toks hs .refl h)
theorem j_setInst {vs : List (Option Value)} {H : PH} {x dx : Addr} {l : List (Str × Value)} {name : Str} {v : Value} {R : Unit → Sg → Prop} (O : Ok C n) (I : Inst H x dx l)
    (hs0 : findIn (Mine.HeapK C.w.params) (.ref 83) "__setattr__" = some (some (.builtin "object.__setattr__"))) (hp : plainOver (Mine.HeapK C.w.params) 83 = true) (ht : takerIn (Mine.HeapK C.w.params) 83 name = some none) (hh : hasDictIn (Mine.HeapK C.w.params) 83 = true)
    (hz : l.length ≤ 900) (h : ∀ o, Inst (H.set dx o) x dx ((name, v) :: l) → R () ⟨vs, H.set dx o⟩) : J C (setAttr (.ref x) name v) ⟨vs, H⟩ R :=
  j_mk fun s Q hs q => by
    obtain ⟨i1, es, k, i2, i3, i4⟩ := I
    have hdx := hs.hp dx _ i2
    refine set_dict (news := (dx, dictOf es k) :: (allNews C s.heap).filter fun p => decide (p.1 ≠ dx)) hs.fr O.X (fun p hp => ?_) (hs.inst i1 i2) rfl hs0 hp ht hh (by rw [i4]; rfl) rfl (.head fun p hp => of_decide_eq_true (List.mem_filter.mp hp).2) (Nat.le_trans (putL_length _ _ _ _ _) (by omega)) fun h' F N => ?_
    · rcases List.mem_cons.mp hp with rfl | hp
      · exact hdx
      · exact hs.all p (List.mem_filter.mp hp).1
    · have kp : ∀ b ob, b ≠ dx → b ≠ C.L → s.heap.get? b = some ob → h'.get? b = some ob := fun b ob n1 n2 e => by
        cases q1 : C.base.get? b with
        | some o1 =>
          have h1 := hs.fr.keep b o1 q1
          rw [e] at h1; cases h1
          exact F.keep b ob q1
        | none => exact (N (b, ob) (List.mem_cons_of_mem _ (List.mem_filter.mpr ⟨mem_allNews.mpr ⟨e, n2, q1⟩, decide_eq_true n1⟩))).1
      have nx : x ≠ dx := fun q1 => by rw [q1, i2] at i1; cases i1
      refine q () ⟨vs, H.set dx (dictOf (putL name (PyData.keyHash C.w.params name) (.str name (s.toks + 1)) v es) (putN name es k))⟩ h' _ ⟨F, fun b ob e => ?_⟩ ⟨fun b ob e => ?_, fun b ob e n1 n2 => kp b ob (fun q1 => ?_) n2 e⟩
        (h _ ⟨(PH.set_ne nx).trans i1, _, _, PH.set_self, Nat.le_trans (putL_length _ _ _ _ _) (Nat.succ_le_succ i3), fun nm => ?_⟩)
      · rcases set_cases e with ⟨rfl, rfl⟩ | ⟨n1, e⟩
        · exact N _ List.mem_cons_self
        · have := hs.hp b ob e
          exact ⟨kp b ob n1 this.2.1 this.1, this.2⟩
      · rcases set_cases e with ⟨rfl, rfl⟩ | ⟨n1, e⟩
        · exact .inl (by show H _ ≠ none; rw [i2]; exact Option.some_ne_none _)
        · exact .inl (by show H b ≠ none; rw [e]; exact Option.some_ne_none _)
      · subst q1
        have n1' : H b = none := n1
        rw [i2] at n1'; cases n1'
      · rw [getL_put, i4, List.lookup_cons]
        by_cases hq : nm = name
        · rw [if_pos hq, show (nm == name) = true from beq_iff_eq.mpr hq]
        · rw [if_neg hq, show (nm == name) = false from beq_eq_false_iff_ne.mpr hq]
end
section
variable {C : Cx} {σ : Sg} {n : Nat} {f : Addr} {name qual : Str} {params : Arguments} {body : List Stmt} {scope : Scope} {dV kV doc pm cdv ct oc : Value} {an od : Option Addr} {osl : Array (Option Value)} {vals : List Value} {rest : List Str}
/-- a def's call below a caller of the machine -/
theorem code_call {A : Around} {s : Shared} {P : Result → Shared → Prop} {R : Value → Sg → Prop} (ns : List Str) (vs₀ : List (Option Value)) (X : (Mine.HeapK C.w.params).In C.base) (T : ∃ mean mg mb, Top Mine.ViewQ (looseW Mine.ViewQ [Str.ofString "Whitespace"]) mean mg mb C.base) (hh : A.handled = none) (hdep : A.depth + (n + 1) < recursionLimit) (hun : A.units + 20 * (n + 1) + 200 < cLine)
    (ho : (Mine.HeapK C.w.params).lookup f = some ⟨oc, od, .func (fnOf name qual params body scope dV kV doc pm an cdv ct), osl⟩) (hcd : codeIn (Mine.HeapK C.w.params) cdv qual = true)
    (hbind : bindArgs (fnOf name qual params body scope dV kV doc pm an cdv ct) ⟨vals, []⟩ = pure ((params.args.map (·.arg)).zip vals)) (hlen : (params.args.map (·.arg)).length = vals.length)
    (hloc : ∀ y ∈ (params.args.map (·.arg)).zip vals, scope.names.lookup y.1 = some .local) (hns : params.args.map (·.arg) ++ rest = ns) (hvs : vals.map some ++ rest.map (fun _ => none) = vs₀) (hnd : ns.Nodup) (hcell : ∀ x ∈ scope.names, x.2 ≠ .cell)
    (hco : scope.isCoroutine = false) (hgen : scope.isGenerator = false) (hk : scope.kind = .function) (hs : St C σ s.heap)
    (h : ∀ A' base' L', Ok ⟨C.w, A', base', L', ns⟩ n → J ⟨C.w, A', base', L', ns⟩ (execs body (envOf qual scope L' f cdv)) ⟨vs₀, σ.H⟩
      (fun fl σ' => R (match fl with | .ret v => v | _ => .none) ⟨σ.vs, σ'.H⟩))
    (q : ∀ v σ' h' tk', St C σ' h' → Fram C σ s.heap σ' h' → R v σ' → P (.ok (.ret v)) { s with heap := h', toks := tk' }) : codeAny (model PySem.Challenge.pw_sw0062_01 C.w) A (.call (.ref f) ⟨vals, []⟩) P s := by
  subst hns hvs
  obtain ⟨mean, mg, mb, T⟩ := T
  have X' := X.keeps hs.fr.keep
  refine codeAny_call_def (fd := fnOf name qual params body scope dV kV doc pm an cdv ct) (body := body) (by omega) (X' _ _ ho) rfl (T.nolimit.keeps hs.fr.keep) (codeRec_of X' hcd) rfl (BindsTo.of_eq hbind) hcell hloc (fun h₁ hns hk₁ => ?_) hco hgen hk
  have O' : Ok ⟨C.w, A.deeper (callEnv (fnOf name qual params body scope dV kV doc pm an cdv ct) s.heap.objs.size f), hidden σ.H s.heap, s.heap.objs.size, params.args.map (·.arg) ++ rest⟩ n :=
    ⟨X.keeps (hs.stays), ⟨mean, mg, mb, T.keeps hs.stays⟩, hh, by show A.depth + 1 + n < _; omega, by show A.units + 3 + 20 * n + 200 < _; omega, hnd⟩
  have hs' : St ⟨C.w, A.deeper (callEnv (fnOf name qual params body scope dV kV doc pm an cdv ct) s.heap.objs.size f), hidden σ.H s.heap, s.heap.objs.size, params.args.map (·.arg) ++ rest⟩
      ⟨vals.map some ++ rest.map (fun _ => none), σ.H⟩ h₁ := by
    refine ⟨⟨?_, fun b o e => hk₁ b o (of_hidden e), Nat.le_of_eq (hidden_size _ _)⟩, fun a o e => ⟨hk₁ _ _ (hs.get e), Nat.ne_of_lt (Heap.lt_size (hs.get e)), hidden_none (hs.get e) e⟩⟩
    have e : (fun x => ((params.args.map (·.arg)).zip vals).reverse.lookup x) = look (params.args.map (·.arg) ++ rest) (vals.map some ++ rest.map fun _ => none) := funext (look_zip _ _ _ hlen hnd)
    rw [← e]; exact hns
  exact j_use (h _ _ _ O') (s := { s with heap := h₁, toks := s.toks + ((params.args.map (·.arg)).zip vals).length }) hs' fun fl σ' h' tk' hs'' hf r => q _ _ h' tk' (hs.back rfl hs'')
    ⟨fun b o e => (hf.dom b o e).imp id (fun e1 => by
      cases e2 : s.heap.get? b with
      | none => rfl
      | some ob => exact absurd e1 (by rw [hk₁ b ob e2]; exact Option.some_ne_none _)),
      fun b o e n _ => hf.kept b o (hk₁ b o e) n (Nat.ne_of_lt (Heap.lt_size e))⟩ r
theorem under_tc {A : Around} {a : Addr} {vs : List Value} : (A.under (.builtin "type.__call__" ⟨.ref a :: vs, []⟩)).depth = A.depth + 1 := rfl
theorem j_make {vs : List (Option Value)} {H : PH} {R : Value → Sg → Prop} {val : Value} (ns : List Str) (O : Ok C (n + 2)) (hm : makesIn (Mine.HeapK C.w.params) 83 = true) (hi : findIn (Mine.HeapK C.w.params) (.ref 83) "__init__" = some (some (.ref f))) (hf : isFn (Mine.HeapK C.w.params) (.ref f) = true)
    (ho : (Mine.HeapK C.w.params).lookup f = some ⟨oc, od, .func (fnOf name qual params body scope dV kV doc pm an cdv ct), osl⟩) (hcd : codeIn (Mine.HeapK C.w.params) cdv qual = true)
    (hbind : ∀ x, bindArgs (fnOf name qual params body scope dV kV doc pm an cdv ct) ⟨[.ref x, val], []⟩ = pure ((params.args.map (·.arg)).zip [.ref x, val])) (hlen : (params.args.map (·.arg)).length = 2)
    (hloc : ∀ x, ∀ y ∈ (params.args.map (·.arg)).zip [.ref x, val], scope.names.lookup y.1 = some .local) (hns : params.args.map (·.arg) ++ rest = ns) (hnd : ns.Nodup) (hcell : ∀ x ∈ scope.names, x.2 ≠ .cell)
    (hco : scope.isCoroutine = false) (hgen : scope.isGenerator = false) (hk : scope.kind = .function)
    (h : ∀ x dx A' base' L', H x = none → H dx = none → x ≠ dx → Ok ⟨C.w, A', base', L', ns⟩ n → J ⟨C.w, A', base', L', ns⟩ (execs body (envOf qual scope L' f cdv)) ⟨some (.ref x) :: some val :: rest.map (fun _ => none), (H.set dx (dictOf [] 0)).set x (instObj 83 dx)⟩
      (fun fl σ' => (match fl with | .ret v => v | _ => .none) = .none ∧ R (.ref x) ⟨vs, σ'.H⟩)) : J C (PySem.call (.ref 83) [val]) ⟨vs, H⟩ R :=
  j_mk fun s Q hs q => by
    refine call_cls (news := allNews C s.heap) hs.fr O.X hs.all hm hi hf fun x dx h' F N hlt hx => ?_
    have kp := keeps_all (ex := [_, _]) F N hs.fr
    have Nx := N _ List.mem_cons_self
    have Nd := N _ (List.mem_cons_of_mem _ List.mem_cons_self)
    have up : ∀ b, dx ≤ b → b ≠ C.L → C.base.get? b = none → s.heap.get? b = none := fun b hb h1 h2 => by
      cases e : s.heap.get? b with
      | none => rfl
      | some o => exact absurd (hlt _ (mem_allNews.mpr ⟨e, h1, h2⟩)) (Nat.not_lt.mpr hb)
    have gx := up x (Nat.le_of_lt hx) Nx.2.1 Nx.2.2
    have gd := up dx (Nat.le_refl _) Nd.2.1 Nd.2.2
    have none_of : ∀ {b : Addr}, s.heap.get? b = none → H b = none := fun {b} e => by
      cases e2 : H b with
      | none => rfl
      | some o => rw [hs.get e2] at e; cases e
    have hs' : St C ⟨vs, (H.set dx (dictOf [] 0)).set x (instObj 83 dx)⟩ h' := ⟨F, fun b o e => by
      rcases set_cases e with ⟨rfl, rfl⟩ | ⟨n1, e⟩
      · exact Nx
      rcases set_cases e with ⟨rfl, rfl⟩ | ⟨n2, e⟩
      · exact Nd
      have := hs.hp b o e
      exact ⟨kp b o this.2.1 this.1, this.2⟩⟩
    have hf1 : Fram C ⟨vs, H⟩ s.heap ⟨vs, (H.set dx (dictOf [] 0)).set x (instObj 83 dx)⟩ h' := ⟨fun b o e => by
      rcases set_cases e with ⟨rfl, rfl⟩ | ⟨n1, e⟩
      · exact .inr gx
      rcases set_cases e with ⟨rfl, rfl⟩ | ⟨n2, e⟩
      · exact .inr gd
      exact .inl (by show H b ≠ none; rw [e]; exact Option.some_ne_none _), fun b o e _ l => kp b o l e⟩
    exact code_call (C := C) (n := n) (σ := ⟨vs, (H.set dx (dictOf [] 0)).set x (instObj 83 dx)⟩) (s := { s with heap := h' }) (R := fun v σ' => v = .none ∧ R (.ref x) σ') ns _ O.X O.T O.hh (by have := O.depth; rw [under_tc]; omega) (by have := O.units; show C.A.units + 1 + 20 * (n + 1) + 200 < _; omega)
      ho hcd (hbind x) hlen (hloc x) hns rfl hnd hcell hco hgen hk hs' (fun A' base' L' O' => h x dx A' base' L' (none_of gx) (none_of gd) (Nat.ne_of_gt hx) O') fun v σ' h'' tk' s'' f'' r => ⟨r.1, q _ σ' h'' tk' s'' (hf1.trans hs' f'') r.2⟩
end
end Mine

namespace Mine
example : True := by
  k_with "j" => (first
    | ((with_reducible show J _ (eval (PySem.Expr.Attribute _ _ _) _) _ _); refine j_attr ?_ (by rfl)))
  trivial
end Mine
namespace Mine
/-! tokens only grow -/
theorem runs_toks {M : Model} {Γ : Ctx} {p : Pos} {t : Sem Fin} {fs : List Frame} {s : Shared} {e : End} {s' : Shared} (h : Runs M Γ p t fs s e s') : s.toks ≤ s'.toks := by
  induction h with
  | done => exact Nat.le_refl _
  | raise => exact Nat.le_refl _
  | yield => exact Nat.le_refl _
  | fresh _ ih => exact Nat.le_trans (Nat.le_succ _) ih
  | call _ _ ih1 ih2 => exact Nat.le_trans ih1 ih2
  | resumeFresh _ _ _ _ ih1 ih2 => exact Nat.le_trans ih1 ih2
  | resumeSuspended _ _ _ _ ih1 ih2 => exact Nat.le_trans ih1 ih2
  | segRet _ _ ih1 ih2 => exact Nat.le_trans ih1 ih2
  | segGen _ _ ih1 ih2 => exact Nat.le_trans ih1 ih2
  | segSuspGen _ _ _ _ ih1 ih2 => exact Nat.le_trans ih1 ih2
  | _ => assumption
theorem wakes_toks {M : Model} {Γ : Ctx} {p : Pos} {g : Nat} {r : Resume} {s s' : Shared} {res : GenResult} (h : Wakes M Γ p g r s res s') : s.toks ≤ s'.toks := by
  unfold Wakes at h
  split at h
  · exact h.elim
  · split at h
    · obtain ⟨e₁, s₁, h1, _, _, rfl⟩ := h; have := runs_toks h1; exact this
    · rw [h.2]; exact Nat.le_refl _
    · rw [h.2]; exact Nat.le_refl _
  · obtain ⟨e₁, s₁, h1, _, _, rfl⟩ := h; have := runs_toks h1; exact this
  · rw [h.2]; exact Nat.le_refl _
  · rw [h.2]; exact Nat.le_refl _
theorem wp_toks {α : Type} {M : Model} (t : Sem α) : ∀ {Γ : Ctx} {Q : α → Pos → Shared → Prop} {E : Value → Pos → Shared → Prop} {p : Pos} {s : Shared}, Sem.wp M Γ t Q E p s → Sem.wp M Γ t (fun a p' s' => Q a p' s' ∧ s.toks ≤ s'.toks) (fun e p' s' => E e p' s' ∧ s.toks ≤ s'.toks) p s := by
  induction t with
  | pure a => intro Γ Q E p s h; rw [Sem.wp] at h ⊢; exact ⟨h, Nat.le_refl _⟩
  | raise a => intro Γ Q E p s h; rw [Sem.wp] at h ⊢; exact ⟨h, Nat.le_refl _⟩
  | load a pt k ih => intro Γ Q E p s h; rw [Sem.wp] at h ⊢; obtain ⟨o, h1, h2⟩ := h; exact ⟨o, h1, ih _ h2⟩
  | update a pt f k ih => intro Γ Q E p s h; rw [Sem.wp] at h ⊢; exact ⟨h.1, ih _ h.2⟩
  | choose src n k ih => intro Γ Q E p s h; rw [Sem.wp] at h ⊢; exact ⟨h.1, ih _ h.2⟩
  | fresh k ih => intro Γ Q E p s h; rw [Sem.wp] at h ⊢; exact Sem.wp_mono _ _ _ (fun _ _ _ x => ⟨x.1, Nat.le_trans (Nat.le_succ _) x.2⟩) (fun _ _ _ x => ⟨x.1, Nat.le_trans (Nat.le_succ _) x.2⟩) _ _ (ih _ h)
  | call c h0 g l k ih =>
    intro Γ Q E p s h; rw [Sem.wp] at h ⊢
    obtain ⟨r, s1, hr, h1⟩ := h
    have := runs_toks hr
    exact ⟨r, s1, hr, Sem.wp_mono _ _ _ (fun _ _ _ x => ⟨x.1, Nat.le_trans this x.2⟩) (fun _ _ _ x => ⟨x.1, Nat.le_trans this x.2⟩) _ _ (ih _ h1)⟩
  | genState g k ih => intro Γ Q E p s h; rw [Sem.wp] at h ⊢; obtain ⟨o, h1, h2⟩ := h; exact ⟨o, h1, ih _ h2⟩
  | resume g r l k ih =>
    intro Γ Q E p s h; rw [Sem.wp] at h ⊢
    obtain ⟨r, s1, hr, h1⟩ := h
    have := wakes_toks hr
    exact ⟨r, s1, hr, Sem.wp_mono _ _ _ (fun _ _ _ x => ⟨x.1, Nat.le_trans this x.2⟩) (fun _ _ _ x => ⟨x.1, Nat.le_trans this x.2⟩) _ _ (ih _ h1)⟩
  | _ => intro Γ Q E p s h; rw [Sem.wp] at h ⊢; first | exact h | (rename_i ih; exact ih _ h)
/-- as J, with a bound below the tokens to come -/
def JT {α : Type} (C : Cx) (t : Sem α) (B : Nat) (σ : Sg) (R : α → Nat → Sg → Prop) : Prop :=
  ∀ s : Shared, St C σ s.heap → B ≤ s.toks → wpAny (model PySem.Challenge.pw_sw0062_01 C.w) C.A t (fun a s' => ∃ σ' h' tk' B', s' = { s with heap := h', toks := tk' } ∧ St C σ' h' ∧ Fram C σ s.heap σ' h' ∧ B' ≤ tk' ∧ R a B' σ') (fun _ _ => False) s
section
variable {α β : Type} {C : Cx} {σ : Sg} {n : Nat} {env : Env} {pos : Pos} {B : Nat}
theorem jt_of {t : Sem α} {R : α → Nat → Sg → Prop} (h : J C t σ fun a σ' => R a B σ') : JT C t B σ R := fun s hs hb => fun Γ p hΓ =>
  Sem.wp_mono _ _ _ (fun _ _ _ x => let ⟨⟨σ', h', tk', e, hs', hf, r⟩, y⟩ := x; ⟨σ', h', tk', B, e, hs', hf, Nat.le_trans hb (by rw [e] at y; exact y), r⟩) (fun _ _ _ x => x.1) _ _ (wp_toks _ (h s hs Γ p hΓ))
theorem jt_of' {t : Sem α} {R : α → Sg → Prop} (h : J C t σ R) : JT C t B σ fun a B' σ' => B' = B ∧ R a σ' := jt_of (j_mono h fun _ _ r => ⟨rfl, r⟩)
theorem jt_to {t : Sem α} {R : α → Sg → Prop} (h : JT C t 0 σ fun a _ σ' => R a σ') : J C t σ R := fun s hs => wpAny_mono (h s hs (Nat.zero_le _)) (fun _ _ ⟨σ', h', tk', _, e, hs', hf, _, r⟩ => ⟨σ', h', tk', e, hs', hf, r⟩) fun _ _ x => x
theorem jt_use {t : Sem α} {R : α → Nat → Sg → Prop} (h : JT C t B σ R) {s : Shared} (hs : St C σ s.heap) (hb : B ≤ s.toks) {Q : α → Shared → Prop} {E : Value → Shared → Prop}
    (k : ∀ a σ' h' tk' B', St C σ' h' → Fram C σ s.heap σ' h' → B' ≤ tk' → R a B' σ' → Q a { s with heap := h', toks := tk' }) : wpAny (model PySem.Challenge.pw_sw0062_01 C.w) C.A t Q E s :=
  wpAny_mono (h s hs hb) (fun a s' ⟨σ', h', tk', B', e, hs', hf, hb', r⟩ => e ▸ k a σ' h' tk' B' hs' hf hb' r) (fun _ _ x => x.elim)
theorem jt_mk {t : Sem α} {R : α → Nat → Sg → Prop} (h : ∀ (s : Shared) (Q : α → Shared → Prop), St C σ s.heap → B ≤ s.toks → (∀ a σ' h' tk' B', St C σ' h' → Fram C σ s.heap σ' h' → B' ≤ tk' → R a B' σ' → Q a { s with heap := h', toks := tk' }) →
    wpAny (model PySem.Challenge.pw_sw0062_01 C.w) C.A t Q (fun _ _ => False) s) : JT C t B σ R :=
  fun s hs hb => h s _ hs hb (fun a σ' h' tk' B' hs' hf hb' r => ⟨σ', h', tk', B', rfl, hs', hf, hb', r⟩)
theorem jt_bind {m : Sem β} {f : β → Sem α} {R : α → Nat → Sg → Prop} (h : JT C m B σ fun b B' σ' => JT C (f b) B' σ' R) : JT C (m >>= f) B σ R :=
  jt_mk fun s _ hs hb q => wpAny_bind (jt_use h hs hb fun b σ' h' tk' B' hs' hf hb' r => jt_use r (s := { s with heap := h', toks := tk' }) hs' hb' fun a σ'' h'' tk'' B'' hs'' hf' hb'' r' => q a σ'' h'' tk'' B'' hs'' (hf.trans hs' hf') hb'' r')
theorem jt_mono {t : Sem α} {R R' : α → Nat → Sg → Prop} (h : JT C t B σ R) (k : ∀ a B' σ', R a B' σ' → R' a B' σ') : JT C t B σ R' :=
  jt_mk fun _ _ hs hb q => jt_use h hs hb fun a σ' h' tk' B' hs' hf hb' r => q a σ' h' tk' B' hs' hf hb' (k a B' σ' r)
def SeqT (C : Cx) (rest : List Stmt) (env : Env) (R : Flow → Sg → Prop) : Flow → Nat → Sg → Prop
  | .next, B, σ => JT C (execs rest env) B σ fun f _ σ' => R f σ'
  | f, _, σ => R f σ
theorem jt_cons {st : Stmt} {rest : List Stmt} {R : Flow → Sg → Prop} (h : JT C (exec st env) B σ (SeqT C rest env R)) : JT C (execs (st :: rest) env) B σ fun f _ σ' => R f σ' := by
  show JT C (do match ← exec st env with | .next => execs rest env | f => pure f) B σ _
  refine jt_bind (jt_mono h fun f B' σ₁ h₁ => ?_)
  cases f with
  | next => exact h₁
  | brk => exact jt_of (j_ret h₁)
  | cont => exact jt_of (j_ret h₁)
  | ret v => exact jt_of (j_ret h₁)
theorem jt_consJ {st : Stmt} {rest : List Stmt} {R : Flow → Sg → Prop} (h : JT C (exec st env) B σ fun f _ σ' => Seq C rest env R f σ') : JT C (execs (st :: rest) env) B σ fun f _ σ' => R f σ' :=
  jt_cons (jt_mono h fun f B' σ' r => by
    cases f with
    | next => exact jt_of r
    | brk => exact r
    | cont => exact r
    | ret v => exact r)
theorem jt_set {x : Str} {p : Pos} {e : Expr} {R : Flow → Nat → Sg → Prop} (h : JT C (eval e env) B σ fun v B₁ σ₁ => J C (storeName env x v) σ₁ fun _ σ₂ => R .next B₁ σ₂) (hs : swapsWith e (some (.Name x p)) pos.line env = Pure.pure false := by rfl) :
    JT C (exec (.Assign [.Name x p] e pos) env) B σ R :=
  jt_mk fun s Q hs0 hb q => wpAny_Assign_Name (jt_use h hs0 hb fun v σ₁ h₁ t₁ B₁ s₁ f₁ b₁ r₁ => jt_use (jt_of r₁) (s := { s with heap := h₁, toks := t₁ }) s₁ b₁ fun _ σ₂ h₂ t₂ B₂ s₂ f₂ b₂ r₂ => q _ σ₂ h₂ t₂ _ s₂ (f₁.trans s₁ f₂) b₂ r₂) hs
/-- a list of one literal -/
theorem jt_list1 {i : Int} {k : Nat} {p : Pos} {vs : List (Option Value)} {H : PH} {R : Value → Nat → Sg → Prop} (h : ∀ t a, B ≤ t → H a = none → R (.ref a) (t + 1) ⟨vs, H.set a (listOf [.int i t].toArray 0)⟩) : JT C (eval (.List [.Constant (.int i) k p] pos) env) B ⟨vs, H⟩ R := by
  refine jt_mk fun s Q hs hb q => wpAny_List ?_
  show wpAny _ _ (spliced ((false, eval (.Constant (.int i) k p) env) :: [])) _ _ s
  exact spliced_cons (wpAny_mkInt (wpAny_pure ⟨(by show 1 ≤ sizeLine; rw [sizeLine_eq]; decide), q _ _ _ (s.toks + 1) (s.toks + 1) (hs.push (listOf [.int i s.toks].toArray 0) rfl) (Fram.push hs _) (Nat.le_refl _) (h s.toks _ hb hs.newAt)⟩))
/-- a for, with the bound -/
def ForAtT (C : Cx) (target : Expr) (body : List Stmt) (env : Env) (R : Flow → Sg → Prop) (it : Value) (B : Nat) (σ : Sg) : Prop :=
  ∃ (I : Nat → Nat → Sg → Prop) (k : Nat), I k B σ ∧ ∀ k B σ₁, I k B σ₁ → JT C (pyNext it) B σ₁ fun r B' σ₂ => match r with
    | none => R .next σ₂
    | some v => J C (letOwnedTupleGo target it v) σ₂ fun _ σ₃ => J C (assign target env v) σ₃ fun _ σ₄ => J C (execs body env) σ₄ (Turn R (fun m => I m B') k)
theorem jt_for {target iter : Expr} {body : List Stmt} {R : Flow → Sg → Prop} (h : JT C (eval iter env) B σ fun x B₁ σ₁ => J C (pyIter x) σ₁ fun it σ₂ => ForAtT C target body env R it B₁ σ₂)
    (hs : ∀ x, foldedSetIterable iter env x = Pure.pure x := by intro _; rfl) : JT C (exec (.For target iter body [] pos) env) B σ fun f _ σ' => R f σ' := by
  refine jt_mk fun s Q hs0 hb q => wpAny_For (jt_use h hs0 hb fun x σa ha ta Ba sa fa ba ra => jt_use (jt_of ra) (s := { s with heap := ha, toks := ta }) sa ba fun it σ₀ h₀ t₀ B₀ s₀ f₀ b₀ r₀ => ?_) hs
  obtain ⟨I, k, hI, turn⟩ := r₀
  have f00 := fa.trans sa f₀
  refine codeAny_forLoop_any (fun k s' => ∃ σ' h' tk' B', s' = { s with heap := h', toks := tk' } ∧ St C σ' h' ∧ Fram C σ s.heap σ' h' ∧ B' ≤ tk' ∧ I k B' σ') (fun k s' hk => ?_) k ⟨σ₀, h₀, t₀, _, rfl, s₀, f00, b₀, hI⟩
  obtain ⟨σ₁, h₁, t₁, B₁, rfl, s₁, f₁, b₁, i₁⟩ := hk
  refine jt_use (turn k B₁ σ₁ i₁) (s := { s with heap := h₁, toks := t₁ }) s₁ b₁ fun r σ₂ h₂ t₂ B₂ s₂ f₂ b₂ r₂ => ?_
  have f2 := f₁.trans s₁ f₂
  cases r with
  | none => exact wpAny_execs_nil (q _ σ₂ h₂ t₂ _ s₂ f2 b₂ r₂)
  | some v =>
    replace r₂ : J C (letOwnedTupleGo target it v) σ₂ _ := r₂
    refine jt_use (jt_of' r₂) (s := { s with heap := h₂, toks := t₂ }) s₂ b₂ fun _ σ₃ h₃ t₃ B₃ s₃ f₃ b₃ r₃ => jt_use (jt_of' r₃.2) (s := { s with heap := h₃, toks := t₃ }) s₃ b₃ fun _ σ₄ h₄ t₄ B₄ s₄ f₄ b₄ r₄ =>
      jt_use (jt_of' r₄.2) (s := { s with heap := h₄, toks := t₄ }) s₄ b₄ fun f σ₅ h₅ t₅ B₅ s₅ f₅ b₅ r₅ => ?_
    have f5 := f2.trans s₂ (f₃.trans s₃ (f₄.trans s₄ f₅))
    have eB := r₅.1.trans (r₄.1.trans r₃.1)
    subst eB
    replace r₅ := r₅.2
    cases f with
    | next => obtain ⟨m, hm, r₅⟩ := r₅; exact ⟨m, hm, σ₅, h₅, t₅, _, rfl, s₅, f5, b₅, r₅⟩
    | cont => obtain ⟨m, hm, r₅⟩ := r₅; exact ⟨m, hm, σ₅, h₅, t₅, _, rfl, s₅, f5, b₅, r₅⟩
    | brk => exact q _ σ₅ h₅ t₅ _ s₅ f5 b₅ r₅
    | ret v => exact q _ σ₅ h₅ t₅ _ s₅ f5 b₅ r₅
theorem range_nextT {it : Addr} {a c : Int} {N i : Nat} {vs : List (Option Value)} {H F : PH} (hi : i < N) (hd : Disj F H) (hF : RangeIt it a c N i F) :
    JT C (pyNext (.ref it)) B ⟨vs, H.both F⟩ fun r B' σ' => ∃ t F', B ≤ t ∧ B' = t + 1 ∧ r = some (.int (a + c * i) t) ∧ RangeIt it a c N (i + 1) F' ∧ Disj F' H ∧ σ' = ⟨vs, H.both F'⟩ := by
  subst hF
  have hn := disj_at hd
  refine jt_mk fun s Q hs hb q => ?_
  have hit := PH.both_right (F := PH.one it { cls := .type "range_iterator", data := .fields #[rawInt (a + c * i), rawInt (N - i), rawInt c] }) hn
  rw [PH.one_self] at hit
  refine wpAny_pyNext_range_item (hs.get hit) (by omega) fun h' hl' hsb => ?_
  have e1 : a + c * (i : Int) + c = a + c * ((i + 1 : Nat) : Int) := by rw [Int.natCast_add, Int.mul_add]; simp; omega
  have e2 : (N : Int) - i - 1 = N - ((i + 1 : Nat) : Int) := by omega
  rw [e1, e2] at hl'
  exact q _ ⟨vs, (H.both (PH.one it _)).set it _⟩ h' (s.toks + 1) (s.toks + 1) (hs.upd hit (fun b ob hb eb => (hsb.2 b hb).trans eb) hl') (Fram.upd hit fun b ob hb eb => (hsb.2 b hb).trans eb) (Nat.le_refl _)
    ⟨s.toks, PH.one it _, hb, rfl, rfl, rfl, disj_one hn, by rw [both_set_one hn]⟩
theorem forAtT_range {it : Addr} {a c : Int} {N : Nat} {target : Expr} {body : List Stmt} {R : Flow → Sg → Prop} {vs : List (Option Value)} {H F : PH} (O : Ok C n) (hd : Disj F H) (hS : RangeIt it a c N 0 F) (I : Nat → Nat → Sg → Prop) (h0 : I 0 B ⟨vs, H⟩)
    (turn : ∀ i B σ t, i < N → I i B σ → B ≤ t → J C (assign target env (.int (a + c * i) t)) σ fun _ σ₁ => J C (execs body env) σ₁ (Go R (I (i + 1) (t + 1)))) (done : ∀ B σ, I N B σ → R .next σ) :
    ForAtT C target body env R (.ref it) B ⟨vs, H.both F⟩ := by
  have T := iter_range (C := C) (it := it) (a := a) (c := c) (N := N) O
  refine ⟨fun k B σ => ∃ i H' F', σ.H = H'.both F' ∧ Disj F' H' ∧ RangeIt it a c N i F' ∧ I i B ⟨σ.vs, H'⟩ ∧ i ≤ N ∧ k = N - i, N, ⟨0, H, F, rfl, hd, hS, h0, Nat.zero_le _, rfl⟩, ?_⟩
  rintro k B ⟨vs', Hall⟩ ⟨i, H', F', e, hd', hS', hI, hi, rfl⟩
  dsimp only at e; subst e
  by_cases hlt : i < N
  · refine jt_mono (range_nextT hlt hd' hS') ?_
    rintro r B' σ' ⟨t, F₁, hb, rfl, rfl, hS₁, hd₁, rfl⟩
    refine j_mono (T.own _ vs' H' F₁ target _ hd₁ hS₁) ?_
    rintro _ σ₂ rfl
    refine j_frame hd₁ ?_
    refine j_mono (turn i B ⟨vs', H'⟩ t hlt hI hb) ?_
    intro _ σ₃ h₃ hd₃
    refine j_after ?_
    refine j_frame (fun b hb => hd₃ b hb) ?_
    refine j_mono h₃ ?_
    intro fl σ₄ h₄ hd₄
    cases fl with
    | next => exact ⟨_, PH.le_refl _, N - (i + 1), by omega, i + 1, σ₄.H, F₁, rfl, hd₄, hS₁, h₄, hlt, rfl⟩
    | cont => exact ⟨_, PH.le_refl _, N - (i + 1), by omega, i + 1, σ₄.H, F₁, rfl, hd₄, hS₁, h₄, hlt, rfl⟩
    | brk => exact ⟨σ₄.H, le_both, h₄⟩
    | ret v => exact ⟨σ₄.H, le_both, h₄⟩
  · have hN : i = N := by omega
    subst hN
    refine jt_of (j_mono (T.stop vs' H' F' trivial hd' hS') ?_)
    rintro r σ' ⟨rfl, rfl⟩
    exact done B _ hI
end
end Mine

namespace Mine
/-! loops whose posts are opaque -/
theorem forAt_iterP {C : Cx} {it : Value} {N : Nat} {item : Nat → Value → Prop} {need : PH → Prop} {S : Nat → PH → Prop} {target : Expr} {body : List Stmt} {env : Env} {R : Flow → Sg → Prop} {vs : List (Option Value)} {H F : PH}
    (T : Iter C it N item need S) (hd : Disj F H) (hS : S 0 F) (I : Nat → Sg → Prop) (h0 : I 0 ⟨vs, H⟩) (hneed : ∀ i σ, I i σ → need σ.H)
    (turn : ∀ i σ v, i < N → I i σ → item i v → ∀ P : Flow → Sg → Prop, (∀ σ', I (i + 1) σ' → P .next σ') → (∀ σ', I (i + 1) σ' → P .cont σ') → (∀ σ', R .next σ' → P .brk σ') → (∀ v σ', R (.ret v) σ' → P (.ret v) σ') → J C (assign target env v) σ fun _ σ₁ => J C (execs body env) σ₁ P) (done : ∀ σ, I N σ → R .next σ) :
    ForAt C target body env R it ⟨vs, H.both F⟩ :=
  forAt_iter T hd hS I h0 hneed (fun i σ v hi hI hv => turn i σ v hi hI hv (Go R (I (i + 1))) (fun _ h => h) (fun _ h => h) (fun _ h => h) (fun _ _ h => h)) done
theorem j_whileP {C : Cx} {σ : Sg} {env : Env} {pos : Pos} {test : Expr} {body : List Stmt} {R : Flow → Sg → Prop} (I : Nat → Sg → Prop) (k : Nat) (hI : I k σ)
    (turn : ∀ k σ₁, I k σ₁ → ∀ P : Flow → Sg → Prop, (∀ m σ', m < k → I m σ' → P .next σ') → (∀ m σ', m < k → I m σ' → P .cont σ') → (∀ σ', R .next σ' → P .brk σ') → (∀ v σ', R (.ret v) σ' → P (.ret v) σ') → J C (isTrue test env (eval test env)) σ₁ fun b σ₂ => (b = true → J C (execs body env) σ₂ P) ∧ (b = false → R .next σ₂)) : J C (exec (.While test body [] pos) env) σ R :=
  j_while I k hI fun k σ₁ h => turn k σ₁ h (Turn R I k) (fun m _ a b => ⟨m, a, b⟩) (fun m _ a b => ⟨m, a, b⟩) (fun _ h => h) (fun _ _ h => h)
theorem opaque_go {C : Cx} {σ : Sg} {t : Sem Unit} {env : Env} {body : List Stmt} {R : Flow → Sg → Prop} {I : Sg → Prop} (h : ∀ P : Flow → Sg → Prop, (∀ σ', I σ' → P .next σ') → J C t σ fun _ σ₁ => J C (execs body env) σ₁ P) : J C t σ fun _ σ₁ => J C (execs body env) σ₁ (Go R I) := h (Go R I) fun _ h => h
/-- a test's answer, the locals as they were -/
inductive TestIs (H : PH) (vs : List (Option Value)) (b : Bool) : Bool → Sg → Prop
  | mk (H' : PH) : H.le H' → TestIs H vs b b ⟨vs, H'⟩
/-- gone on, one new token -/
inductive NextTok (H : PH) (vt : Tok → List (Option Value)) : Flow → Sg → Prop
  | mk (t : Tok) (H' : PH) : H.le H' → NextTok H vt .next ⟨vt t, H'⟩
end Mine

namespace Mine
section
variable {C : Cx} {σ : Sg} {n : Nat}
theorem f_le {a b : Int} {t u : Tok} {R : Value → Sg → Prop} (O : Ok C (n + 1)) (h : R (.bool (decide (a ≤ b))) σ) : J C (PySem.call (.ref 101) [.int a t, .int b u]) σ R := by
  refine j_call (rest := []) [Str.ofString "a", Str.ofString "b"] [some (.int a t), some (.int b u)] O (by k_is) (by k_is) (by rfl) (by rfl) (locs rfl) (by rfl) (by rfl) (by decide) (by decide) rfl rfl rfl fun A' base' L' st' O' => ?_
  iterate 5 walk_at "j"
  with_reducible refine j_leI ?_
  exact h

theorem f_ge {a b : Int} {t u : Tok} {R : Value → Sg → Prop} (O : Ok C (n + 1)) (h : R (.bool (decide (b ≤ a))) σ) : J C (PySem.call (.ref 108) [.int a t, .int b u]) σ R := by
  refine j_call (rest := []) [Str.ofString "a", Str.ofString "b"] [some (.int a t), some (.int b u)] O (by k_is) (by k_is) (by rfl) (by rfl) (locs rfl) (by rfl) (by rfl) (by decide) (by decide) rfl rfl rfl fun A' base' L' st' O' => ?_
  iterate 5 walk_at "j"
  with_reducible refine j_geI ?_
  exact h

theorem f_add {a b : Int} {t u : Tok} {R : Value → Sg → Prop} (O : Ok C (n + 1)) (h : ∀ t, R (.int (a + b) t) σ) : J C (PySem.call (.ref 115) [.int a t, .int b u]) σ R := by
  refine j_call (rest := []) [Str.ofString "a", Str.ofString "b"] [some (.int a t), some (.int b u)] O (by k_is) (by k_is) (by rfl) (by rfl) (locs rfl) (by rfl) (by rfl) (by decide) (by decide) rfl rfl rfl fun A' base' L' st' O' => ?_
  iterate 5 walk_at "j"
  with_reducible refine j_addI ?_
  intro t; exact h t

theorem f_and {a b : Int} {t u : Tok} {R : Value → Sg → Prop} (O : Ok C (n + 1)) (h : ∀ t, R (.int (Builtin.bitAnd a b) t) σ) : J C (PySem.call (.ref 122) [.int a t, .int b u]) σ R := by
  refine j_call (rest := []) [Str.ofString "a", Str.ofString "b"] [some (.int a t), some (.int b u)] O (by k_is) (by k_is) (by rfl) (by rfl) (locs rfl) (by rfl) (by rfl) (by decide) (by decide) rfl rfl rfl fun A' base' L' st' O' => ?_
  iterate 5 walk_at "j"
  with_reducible refine j_andI ?_
  intro t; exact h t

theorem f_floordiv {a b : Int} {t u : Tok} {R : Value → Sg → Prop} (O : Ok C (n + 1)) (h0 : b ≠ 0) (hp : Builtin.divisionGoesByPylong a b = false) (h : ∀ t, R (.int (a.fdiv b) t) σ) : J C (PySem.call (.ref 129) [.int a t, .int b u]) σ R := by
  refine j_call (rest := []) [Str.ofString "a", Str.ofString "b"] [some (.int a t), some (.int b u)] O (by k_is) (by k_is) (by rfl) (by rfl) (locs rfl) (by rfl) (by rfl) (by decide) (by decide) rfl rfl rfl fun A' base' L' st' O' => ?_
  iterate 5 walk_at "j"
  with_reducible refine j_divI h0 hp ?_
  intro t; exact h t

theorem f_inv {a : Int} {t : Tok} {R : Value → Sg → Prop} (O : Ok C (n + 1)) (h : ∀ t, R (.int (Builtin.bitNot a) t) σ) : J C (PySem.call (.ref 136) [.int a t]) σ R := by
  refine j_call (rest := []) [Str.ofString "a"] [some (.int a t)] O (by k_is) (by k_is) (by rfl) (by rfl) (locs rfl) (by rfl) (by rfl) (by decide) (by decide) rfl rfl rfl fun A' base' L' st' O' => ?_
  iterate 4 walk_at "j"
  with_reducible refine j_invI ?_
  intro t; exact h t

theorem f_lshift {a b : Int} {t u : Tok} {R : Value → Sg → Prop} (O : Ok C (n + 1)) (h0 : 0 ≤ b) (h1 : b ≤ 1000000) (h2 : a.natAbs < 2 ^ 64) (h : ∀ t, R (.int (a * 2 ^ b.toNat) t) σ) : J C (PySem.call (.ref 143) [.int a t, .int b u]) σ R := by
  refine j_call (rest := []) [Str.ofString "a", Str.ofString "b"] [some (.int a t), some (.int b u)] O (by k_is) (by k_is) (by rfl) (by rfl) (locs rfl) (by rfl) (by rfl) (by decide) (by decide) rfl rfl rfl fun A' base' L' st' O' => ?_
  iterate 5 walk_at "j"
  with_reducible refine j_shlI h0 h1 h2 ?_
  intro t; exact h t

theorem f_mod {a b : Int} {t u : Tok} {R : Value → Sg → Prop} (O : Ok C (n + 1)) (h0 : b ≠ 0) (h : ∀ t, R (.int (a.fmod b) t) σ) : J C (PySem.call (.ref 150) [.int a t, .int b u]) σ R := by
  refine j_call (rest := []) [Str.ofString "a", Str.ofString "b"] [some (.int a t), some (.int b u)] O (by k_is) (by k_is) (by rfl) (by rfl) (locs rfl) (by rfl) (by rfl) (by decide) (by decide) rfl rfl rfl fun A' base' L' st' O' => ?_
  iterate 5 walk_at "j"
  with_reducible refine j_modI h0 ?_
  intro t; exact h t

theorem f_mul {a b : Int} {t u : Tok} {R : Value → Sg → Prop} (O : Ok C (n + 1)) (h0 : IntMulOk a b) (h : ∀ t, R (.int (a * b) t) σ) : J C (PySem.call (.ref 157) [.int a t, .int b u]) σ R := by
  refine j_call (rest := []) [Str.ofString "a", Str.ofString "b"] [some (.int a t), some (.int b u)] O (by k_is) (by k_is) (by rfl) (by rfl) (locs rfl) (by rfl) (by rfl) (by decide) (by decide) rfl rfl rfl fun A' base' L' st' O' => ?_
  iterate 5 walk_at "j"
  with_reducible refine j_mulI h0 ?_
  intro t; exact h t

theorem f_neg {a : Int} {t : Tok} {R : Value → Sg → Prop} (O : Ok C (n + 1)) (h : ∀ t, R (.int (-a) t) σ) : J C (PySem.call (.ref 164) [.int a t]) σ R := by
  refine j_call (rest := []) [Str.ofString "a"] [some (.int a t)] O (by k_is) (by k_is) (by rfl) (by rfl) (locs rfl) (by rfl) (by rfl) (by decide) (by decide) rfl rfl rfl fun A' base' L' st' O' => ?_
  iterate 4 walk_at "j"
  with_reducible refine j_negI ?_
  intro t; exact h t

theorem f_or {a b : Int} {t u : Tok} {R : Value → Sg → Prop} (O : Ok C (n + 1)) (h : ∀ t, R (.int (Builtin.bitOr a b) t) σ) : J C (PySem.call (.ref 171) [.int a t, .int b u]) σ R := by
  refine j_call (rest := []) [Str.ofString "a", Str.ofString "b"] [some (.int a t), some (.int b u)] O (by k_is) (by k_is) (by rfl) (by rfl) (locs rfl) (by rfl) (by rfl) (by decide) (by decide) rfl rfl rfl fun A' base' L' st' O' => ?_
  iterate 5 walk_at "j"
  with_reducible refine j_orI ?_
  intro t; exact h t
end
end Mine

namespace Mine
example : True := by
  k_with "j" => (first
    | ((with_reducible show J _ (PySem.call (.ref 101) _) _ _); refine f_le (by assumption) ?_)
    | ((with_reducible show J _ (PySem.call (.ref 108) _) _ _); refine f_ge (by assumption) ?_)
    | ((with_reducible show J _ (PySem.call (.ref 115) _) _ _); refine f_add (by assumption) ?_; intro _)
    | ((with_reducible show J _ (PySem.call (.ref 122) _) _ _); refine f_and (by assumption) ?_; intro _)
    | ((with_reducible show J _ (PySem.call (.ref 171) _) _ _); refine f_or (by assumption) ?_; intro _)
    | ((with_reducible show J _ (PySem.call (.ref 136) _) _ _); refine f_inv (by assumption) ?_; intro _)
    | ((with_reducible show J _ (PySem.call (.ref 164) _) _ _); refine f_neg (by assumption) ?_; intro _)
    | ((with_reducible show J _ (PySem.call (.ref 129) _) _ _); refine f_floordiv (by assumption) (by decide) (by rfl) ?_; intro _)
    | ((with_reducible show J _ (PySem.call (.ref 150) _) _ _); refine f_mod (by assumption) (by decide) ?_; intro _)
    | ((with_reducible show J _ (PySem.call (.ref 157) _) _ _); refine f_mul (by assumption) (IntMulOk.of_left (by decide)) ?_; intro _))
  trivial
end Mine
namespace Mine
/-- what the def reckons -/
def simp (us os : List Int) : Nat → Int → Int → Int → Int
  | 0, here, _, _ => here
  | k + 1, here, step, last =>
    if us.any (fun x => decide (here ≤ x)) then
      let st := if step < 64 ∨ 1 = -last then step.fdiv 2 else step
      simp us os k (here + 1 * st) st 1
    else if os.any (fun x => decide (x ≤ here)) then
      let st := if step < 64 ∨ -1 = -last then step.fdiv 2 else step
      simp us os k (here + -1 * st) st (-1)
    else here
theorem simp_s (us os : List Int) (k : Nat) (here step last : Int) : simp us os (k + 1) here step last = if us.any (fun x => decide (here ≤ x)) then
      let st := if step < 64 ∨ 1 = -last then step.fdiv 2 else step
      simp us os k (here + 1 * st) st 1
    else if os.any (fun x => decide (x ≤ here)) then
      let st := if step < 64 ∨ -1 = -last then step.fdiv 2 else step
      simp us os k (here + -1 * st) st (-1)
    else here := rfl
inductive SimpI (H₀ : PH) (us os : List Int) (u o : Value) (G : Int) : Nat → Sg → Prop
  | mk (i : Nat) (H' : PH) (here step last : Int) (t1 t2 t3 : Tok) (ot ow : Option Value) : H₀.le H' → 0 ≤ step → step ≤ 64 → G = simp us os (12 - i) here step last → SimpI H₀ us os u o G i ⟨[some u, some o, some (.int here t1), some (.int step t2), some (.int last t3), ot, ow], H'⟩
inductive SimpO (H₀ : PH) (us os : List Int) (G here step last : Int) (t1 : Tok) (k : Nat) (vt : Int → Tok → List (Option Value)) : Flow → Sg → Prop
  | way (w : Int) (tw : Tok) (H' : PH) : (w = 1 ∨ w = -1) → H₀.le H' → G = (let st := if step < 64 ∨ w = -last then step.fdiv 2 else step; simp us os k (here + w * st) st w) → SimpO H₀ us os G here step last t1 k vt .next ⟨vt w tw, H'⟩
  | out (vs : List (Option Value)) (H' : PH) : H₀.le H' → G = here → SimpO H₀ us os G here step last t1 k vt (.ret (.int here t1)) ⟨vs, H'⟩
theorem half_ok {c : Prop} [Decidable c] {x : Int} (h0 : 0 ≤ x) (h1 : x ≤ 64) : 0 ≤ (if c then x.fdiv 2 else x) ∧ (if c then x.fdiv 2 else x) ≤ 64 := by
  split
  · exact ⟨Int.fdiv_nonneg h0 (by decide), by rw [Int.fdiv_eq_ediv_of_nonneg x (by decide)]; exact Int.le_trans (Int.ediv_le_self _ h0) h1⟩
  · exact ⟨h0, h1⟩
theorem sub_12 {i : Nat} (h : i < 12) : ∃ k, 12 - i = k + 1 ∧ 12 - (i + 1) = k := ⟨11 - i, Nat.succ_sub (Nat.le_of_lt_succ h), Nat.succ_sub_succ 11 i⟩
theorem any_ge_no {us : List Int} {M here : Int} (hMx : ∀ x ∈ us, x ≤ M) (h : decide (here ≤ M) = false) : false = us.any fun x => decide (here ≤ x) := by
  symm
  rw [List.any_eq_false]
  intro x hx e
  exact of_decide_eq_false h (Int.le_trans (of_decide_eq_true e) (hMx x hx))
theorem any_le_no {us : List Int} {M here : Int} (hMx : ∀ x ∈ us, M ≤ x) (h : decide (M ≤ here) = false) : false = us.any fun x => decide (x ≤ here) := by
  symm
  rw [List.any_eq_false]
  intro x hx e
  exact of_decide_eq_false h (Int.le_trans (hMx x hx) (of_decide_eq_true e))
theorem any_nil {us : List Int} {f : Int → Bool} (h : (!decide (us = [])) = false) : us.any f = false := by
  cases us with
  | nil => rfl
  | cons _ _ => cases h
theorem len_pos {us : List Int} (h : (!decide (us = [])) = true) : 0 < us.length := by
  cases us with
  | nil => cases h
  | cons _ _ => exact Nat.succ_pos _
section
variable {C : Cx} {σ : Sg} {n : Nat}
theorem f_simplest {u o : Addr} {ul ol : List Value} {us os : List Int} {vs : List (Option Value)} {H : PH} {R : Value → Sg → Prop} (O : Ok C (n + 2)) (hu : IL H u ul) (hui : IntsAre ul us) (ho : IL H o ol) (hoi : IntsAre ol os)
    (h : ∀ t H', H.le H' → R (.int (simp us os 12 0 64 0) t) ⟨vs, H'⟩) : J C (PySem.call (.ref 225) [.ref u, .ref o]) ⟨vs, H⟩ R := by
  generalize hG : simp us os 12 0 64 0 = G at h
  refine j_call (rest := [Str.ofString "here", Str.ofString "step", Str.ofString "last", Str.ofString "turn", Str.ofString "way"]) [Str.ofString "under", Str.ofString "over", Str.ofString "here", Str.ofString "step", Str.ofString "last", Str.ofString "turn", Str.ofString "way"]
    [some (.ref u), some (.ref o), none, none, none, none, none] O (by k_is) (by k_is) (by rfl) (by rfl) (locs rfl) (by rfl) (by rfl) (by decide) (by decide) rfl rfl rfl fun A' base' L' st' O' => ?_
  walk_at "js"
  refine j_range1 fun r _ _ _ hr => ?_
  refine j_iterRange O' (N := 12) PH.set_self (by decide) (by decide) fun it F hF hIt => ?_
  refine forAt_iterP (iter_range O') hF hIt (SimpI H us os (.ref u) (.ref o) G) ?_ (fun _ _ _ => trivial) ?_ ?_
  · exact .mk _ _ _ _ _ _ _ _ _ _ (PH.le_set hr) (by decide) (by decide) hG.symm
  · rintro i _ v hi ⟨H', here, step, last, t1, t2, t3, ot, ow, hle, hs0, hs1, he⟩ ⟨t, rfl⟩ P hPn hPc hPb hPr
    obtain ⟨k, hk, hk'⟩ := sub_12 hi
    rw [hk] at he
    walk_at "jx"
    refine j_mono (R := SimpO H us os G here step last t1 k fun w tw => [some (.ref u), some (.ref o), some (.int here t1), some (.int step t2), some (.int last t3), some (.int (0 + 1 * (i : Int)) t), some (.int w tw)]) ?_ ?_
    · refine j_if (j_mono (R := TestIs H [some (.ref u), some (.ref o), some (.int here t1), some (.int step t2), some (.int last t3), some (.int (0 + 1 * (i : Int)) t), ow] (us.any (fun x => decide (here ≤ x)))) ?_ ?_)
      · walk_at "js"
        refine j_newList (by decide) fun e1 he1 => ?_
        have hle1 := PH.le_trans hle (PH.le_set (o := listOf [].toArray 0) he1)
        refine j_neLI (by assumption) (hu.le hle1) PL.new.il hui .nil ?_
        walk_at "j"
        refine ⟨fun hc => ?_, fun hc => any_nil (us := us) (f := fun x => decide (here ≤ x)) hc ▸ TestIs.mk _ hle1⟩
        walk_at "js"
        refine j_maxL (by assumption) (hu.le hle1) hui (len_pos hc) ?_
        intro M tM hM hMx
        walk_at "js"
        refine ⟨fun hc2 => ?_, fun hc2 => any_ge_no hMx hc2 ▸ TestIs.mk _ hle1⟩
        walk_at "js"
        exact (List.any_eq_true.mpr ⟨M, hM, hc2⟩ : us.any (fun x => decide (here ≤ x)) = true) ▸ TestIs.mk _ hle1
      rintro _ _ ⟨H1, hle1⟩
      refine ⟨fun hc => ?_, fun hc => ?_⟩
      · rw [simp_s, if_pos hc] at he
        walk_at "js"
        exact .way 1 _ _ (.inl rfl) hle1 he
      rw [simp_s, if_neg (ne_true_of_eq_false hc)] at he
      walk_at "jx"
      refine j_if (j_mono (R := TestIs H [some (.ref u), some (.ref o), some (.int here t1), some (.int step t2), some (.int last t3), some (.int (0 + 1 * (i : Int)) t), ow] (os.any (fun x => decide (x ≤ here)))) ?_ ?_)
      · walk_at "js"
        refine j_newList (by decide) fun e2 he2 => ?_
        have hle2 := PH.le_trans hle1 (PH.le_set (o := listOf [].toArray 0) he2)
        refine j_neLI (by assumption) (ho.le hle2) PL.new.il hoi .nil ?_
        walk_at "j"
        refine ⟨fun hc => ?_, fun hc => any_nil (us := os) (f := fun x => decide (x ≤ here)) hc ▸ TestIs.mk _ hle2⟩
        walk_at "js"
        refine j_minL (by assumption) (ho.le hle2) hoi (len_pos hc) ?_
        intro M tM hM hMx
        walk_at "js"
        refine ⟨fun hc2 => ?_, fun hc2 => any_le_no hMx hc2 ▸ TestIs.mk _ hle2⟩
        walk_at "js"
        exact (List.any_eq_true.mpr ⟨M, hM, hc2⟩ : os.any (fun x => decide (x ≤ here)) = true) ▸ TestIs.mk _ hle2
      rintro _ _ ⟨H2, hle2⟩
      refine ⟨fun hc => ?_, fun hc => ?_⟩
      · rw [if_pos hc] at he
        walk_at "js"
        exact .way (-1) _ _ (.inr rfl) hle2 he
      · rw [if_neg (ne_true_of_eq_false hc)] at he
        walk_at "js"
        exact .out _ _ hle2 he
    · rintro _ _ (⟨w, tw, H'', hw, hle', he'⟩ | ⟨vs2, H'', hle', he'⟩)
      · walk_at "jx"
        refine j_mono (R := NextTok H fun ts => [some (.ref u), some (.ref o), some (.int here t1), some (.int (if step < 64 ∨ w = -last then step.fdiv 2 else step) ts), some (.int last t3), some (.int (0 + 1 * (i : Int)) t), some (.int w tw)]) ?_ ?_
        · walk_at "js"
          refine ⟨fun h1 => ?_, fun h1 => ?_⟩
          · walk_at "js"
            rw [if_pos (.inl (of_decide_eq_true h1))]
            exact .mk _ _ hle'
          · walk_at "js"
            refine ⟨fun h2 => ?_, fun h2 => ?_⟩
            · walk_at "js"
              rw [if_pos (.inr (by simpa using h2))]
              exact .mk _ _ hle'
            · walk_at "js"
              rw [if_neg (by simp only [not_or]; exact ⟨of_decide_eq_false h1, by simpa using h2⟩)]
              exact .mk _ _ hle'
        · rintro _ _ ⟨ts, H3, hle3⟩
          dsimp only at he'
          have m1 : ∀ x, IntMulOk w x := fun x => IntMulOk.of_left (by rcases hw with rfl | rfl <;> decide)
          walk_at "jx"
          refine f_mul (by assumption) (m1 _) fun _ => ?_
          walk_at "jx"
          exact hPn _ (.mk _ _ _ _ _ _ _ _ _ _ hle3 (half_ok hs0 hs1).1 (half_ok hs0 hs1).2 (hk' ▸ he'))
      · refine hPr _ _ ?_
        walk_at "jx"
        rw [← he']
        exact h _ _ hle'
  · rintro _ ⟨H', here, step, last, t1, t2, t3, ot, ow, hle, hs0, hs1, he⟩
    walk_at "js"
    rw [Nat.sub_self] at he
    replace he : _ = here := he
    rw [← he]
    exact h _ _ hle
end
end Mine

namespace Mine
section
variable {C : Cx} {σ : Sg} {n : Nat}
theorem at_L {a : Addr} {items : List Value} {k : Int} {t : Tok} {x : Value} {R : Value → Sg → Prop} (hl : IL σ.H a items) (h0 : 0 ≤ k) (h1 : k < 2 ^ 63) (hx : items[k.toNat]? = some x) (h : R x σ) : Subs C (.ref a) σ ∧ J C (getItem (.ref a) (.int k t)) σ R := ⟨subs_L hl, j_itemL hl h0 h1 hx h⟩
theorem at_Lneg {a : Addr} {items : List Value} {k : Int} {t : Tok} {x : Value} {R : Value → Sg → Prop} (hl : IL σ.H a items) (h0 : k < 0) (h1 : -(items.length : Int) ≤ k) (hb : -2 ^ 63 ≤ k) (hx : items[(k + items.length).toNat]? = some x) (h : R x σ) : Subs C (.ref a) σ ∧ J C (getItem (.ref a) (.int k t)) σ R := ⟨subs_L hl, j_itemLneg hl h0 h1 hb hx h⟩
theorem at_T {a : Addr} {items : List Value} {k : Int} {t : Tok} {j : Nat} {x : Value} {R : Value → Sg → Prop} (hl : TL σ.H a items) (h0 : -2 ^ 63 ≤ k) (h1 : k < 2 ^ 63) (hj : seqIndex? k items.length = some j) (hx : items[j]? = some x) (h : R x σ) : Subs C (.ref a) σ ∧ J C (getItem (.ref a) (.int k t)) σ R := ⟨subs_T hl, j_itemT hl h0 h1 hj hx h⟩
theorem at_S {x : Str} {i : Int} {c : Nat} {t u : Tok} {R : Value → Sg → Prop} (h0 : 0 ≤ i) (h1 : i < 1000) (hc : x.cps[i.toNat]? = some c) (h : ∀ t, R (.str ⟨#[c]⟩ t) σ) : Subs C (.str x t) σ ∧ J C (getItem (.str x t) (.int i u)) σ R := ⟨subs_S, j_itemS h0 h1 hc h⟩
theorem f_contains {a : Addr} {vs : List Value} {ns : List Int} {b : Int} {u : Tok} {R : Value → Sg → Prop} (O : Ok C (n + 1)) (hl : IL σ.H a vs) (hi : IntsAre vs ns) (h : R (.bool (ns.any (· == b))) σ) : J C (PySem.call (.ref 178) [.ref a, .int b u]) σ R := by
  refine j_call (rest := []) [Str.ofString "a", Str.ofString "b"] [some (.ref a), some (.int b u)] O (by k_is) (by k_is) (by rfl) (by rfl) (locs rfl) (by rfl) (by rfl) (by decide) (by decide) rfl rfl rfl fun A' base' L' st' O' => ?_
  walk_at "jx"
  exact j_inL hl hi h
theorem f_delLast {vs : List (Option Value)} {H : PH} {a : Addr} {items : List Value} {x : Value} {u : Tok} {R : Value → Sg → Prop} (O : Ok C (n + 1)) (hl : PL H a (items ++ [x])) (hz : items.length + 1 ≤ sizeLine) (h : ∀ k, R .none ⟨vs, H.set a (listOf items.toArray k)⟩) : J C (PySem.call (.ref 192) [.ref a, .int (-1) u]) ⟨vs, H⟩ R := by
  refine j_call (rest := []) [Str.ofString "a", Str.ofString "b"] [some (.ref a), some (.int (-1) u)] O (by k_is) (by k_is) (by rfl) (by rfl) (locs rfl) (by rfl) (by rfl) (by decide) (by decide) rfl rfl rfl fun A' base' L' st' O' => ?_
  walk_at "jx"
  refine j_delItem (j := items.length) hl (by decide) ?_ (by simpa using hz) fun k => ?_
  · unfold seqIndex?
    simp
    omega
  · rw [List.eraseIdx_append_of_length_le (Nat.le_refl _)]
    simp only [Nat.sub_self, List.eraseIdx_cons_zero, List.append_nil]
    walk_at "jx"
    exact h k
theorem f_getLast {a : Addr} {items : List Value} {x : Value} {u : Tok} {R : Value → Sg → Prop} (O : Ok C (n + 1)) (hl : IL σ.H a (items ++ [x])) (h : R x σ) : J C (PySem.call (.ref 199) [.ref a, .int (-1) u]) σ R := by
  refine j_call (rest := []) [Str.ofString "a", Str.ofString "b"] [some (.ref a), some (.int (-1) u)] O (by k_is) (by k_is) (by rfl) (by rfl) (locs rfl) (by rfl) (by rfl) (by decide) (by decide) rfl rfl rfl fun A' base' L' st' O' => ?_
  walk_at "jx"
  refine at_Lneg hl (by decide) (by simp; omega) (by decide) (x := x) ?_ h
  have e : ((-1 : Int) + (items ++ [x]).length).toNat = items.length := by simp; omega
  rw [e]; simp
theorem f_getAt {a : Addr} {items : List Value} {x : Value} {k : Int} {u : Tok} {R : Value → Sg → Prop} (O : Ok C (n + 1)) (hl : IL σ.H a items) (h0 : 0 ≤ k) (h1 : k < 2 ^ 63) (hx : items[k.toNat]? = some x) (h : R x σ) : J C (PySem.call (.ref 199) [.ref a, .int k u]) σ R := by
  refine j_call (rest := []) [Str.ofString "a", Str.ofString "b"] [some (.ref a), some (.int k u)] O (by k_is) (by k_is) (by rfl) (by rfl) (locs rfl) (by rfl) (by rfl) (by decide) (by decide) rfl rfl rfl fun A' base' L' st' O' => ?_
  walk_at "jx"
  exact at_L hl h0 h1 hx h
/-- each item stands apart from b by its token -/
def AllApart (b : Int) (u : Tok) (items : List Value) (ns : List Int) : Prop := items.length = ns.length ∧ ∀ i (h : i < ns.length), ∃ t, items[i]? = some (.int ns[i] t) ∧ Apart ns[i] t b u
theorem j_iaddI {a b : Int} {t u : Tok} {R : Value → Sg → Prop} (h : ∀ t, R (.int (a + b) t) σ) : J C (inplaceOp .Add (.int a t) (.int b u)) σ R := j_mk fun s Q hs q => iadd_int (q _ σ s.heap (s.toks + 1) hs .refl (h _))
theorem j_isubI {a b : Int} {t u : Tok} {R : Value → Sg → Prop} (h : ∀ t, R (.int (a - b) t) σ) : J C (inplaceOp .Sub (.int a t) (.int b u)) σ R := j_mk fun s Q hs q => isub_int (q _ σ s.heap (s.toks + 1) hs .refl (h _))
theorem f_countOf {vs : List (Option Value)} {H : PH} {a : Addr} {items : List Value} {ns : List Int} {b : Int} {u : Tok} {R : Value → Sg → Prop} (O : Ok C (n + 1)) (hl : IL H a items) (hi : AllApart b u items ns) (h : ∀ t H', H.le H' → R (.int (ns.count b : Nat) t) ⟨vs, H'⟩) :
    J C (PySem.call (.ref 185) [.ref a, .int b u]) ⟨vs, H⟩ R := by
  refine j_call (rest := [Str.ofString "count", Str.ofString "i"]) [Str.ofString "a", Str.ofString "b", Str.ofString "count", Str.ofString "i"] [some (.ref a), some (.int b u), none, none] O (by k_is) (by k_is) (by rfl) (by rfl) (locs rfl) (by rfl) (by rfl) (by decide) (by decide) rfl rfl rfl fun A' base' L' st' O' => ?_
  walk_at "jx"
  refine j_iterList O' hl fun it F hF hIt => ?_
  refine forAt_iter (iter_list O') hF hIt (fun i σ' => H.le σ'.H ∧ ∃ t oi, σ'.vs = [some (.ref a), some (.int b u), some (.int ((ns.take i).count b : Nat) t), oi]) ?_ (fun _ _ h => hl.le h.1) ?_ ?_
  · exact ⟨PH.le_refl _, _, _, rfl⟩
  · rintro i ⟨vs', H'⟩ v hlt ⟨hle, t, oi, hvs⟩ hv
    dsimp only at hvs hle; subst hvs
    have hlt' : i < ns.length := hi.1 ▸ hlt
    obtain ⟨t', e, hap⟩ := hi.2 i hlt'
    rw [hv] at e; cases e
    have key : (ns.take (i + 1)).count b = (ns.take i).count b + if ns[i] = b then 1 else 0 := by
      rw [List.take_succ_eq_append_getElem hlt', List.count_append, List.count_cons, List.count_nil]
      simp
    walk_at "js"
    refine j_isI hap ?_
    walk_at "js"
    by_cases hb : ns[i] = b
    · rw [if_pos hb] at key
      have hbb : (ns[i] == b) = true := by simpa using hb
      rw [hbb]
      refine ⟨fun _ => ⟨fun _ => ?_, (fun hc2 => nomatch hc2)⟩, (fun hc => nomatch hc)⟩
      walk_at "js"
      refine j_iaddI fun t2 => ?_
      walk_at "js"
      refine ⟨hle, t2, some (.int ns[i] t'), ?_⟩
      rw [key]; rfl
    · rw [if_neg hb] at key
      have hbb : (ns[i] == b) = false := by simpa using hb
      rw [hbb]
      refine ⟨(fun hc => nomatch hc), fun _ => ?_⟩
      walk_at "js"
      rw [hbb]
      refine ⟨(fun hc => nomatch hc), fun _ => ?_⟩
      walk_at "js"
      refine ⟨hle, t, some (.int ns[i] t'), ?_⟩
      rw [key]; rfl
  · rintro ⟨vs', H'⟩ ⟨hle, t, oi, hvs⟩
    dsimp only at hvs hle; subst hvs
    walk_at "js"
    rw [hi.1, List.take_length]
    exact h _ _ hle
end
end Mine

namespace Mine
def colF (ch : Nat) (size c : Int) : Int := if ch = 9 then (c.fdiv size + 1) * size else c + 1
def colStep (ch : Nat) (cs : List Int) : List Int := (cs.zipIdx 1).map fun p => colF ch p.2 p.1
def cols (lead : List Nat) : List Int := lead.foldl (fun cs ch => colStep ch cs) [0, 0, 0, 0, 0, 0, 0]
theorem colStep_length (ch : Nat) (cs : List Int) : (colStep ch cs).length = cs.length := by simp [colStep]
theorem cols_length (lead : List Nat) : (cols lead).length = 7 := by
  unfold cols
  have : ∀ (l : List Nat) (cs : List Int), cs.length = 7 → (l.foldl (fun cs ch => colStep ch cs) cs).length = 7 := by
    intro l
    induction l with
    | nil => exact fun _ h => h
    | cons a l ih => exact fun cs h => ih _ (by rw [colStep_length]; exact h)
  exact this _ _ rfl
theorem colStep_get {ch : Nat} {cs : List Int} {i : Nat} (h : i < (colStep ch cs).length) (h' : i < cs.length) : (colStep ch cs)[i] = colF ch ((i : Int) + 1) cs[i] := by
  simp only [colStep, List.getElem_map, List.getElem_zipIdx]
  congr 1
  omega
theorem cols_snoc (l : List Nat) (c : Nat) : cols (l ++ [c]) = colStep c (cols l) := by
  unfold cols
  rw [List.foldl_append]
  rfl
theorem take_snoc {l : List Nat} {i c : Nat} (h : l[i]? = some c) : l.take (i + 1) = l.take i ++ [c] := by
  obtain ⟨hi, e⟩ := List.getElem?_eq_some_iff.mp h
  rw [List.take_succ_eq_append_getElem hi, e]
theorem le_setN {H H' : PH} {a : Addr} {o : Obj} (h : H.le H') (n : H a = none) : H.le (H'.set a o) := fun b ob e => by
  rw [PH.set_ne (fun q => by subst q; rw [n] at e; cases e)]
  exact h b ob e
theorem div_small {a b : Int} (h : b.natAbs < 2 ^ 30) : Builtin.divisionGoesByPylong a b = false := by
  unfold Builtin.divisionGoesByPylong
  have h2 : b.natAbs.log2 / 30 = 0 := by
    by_cases h0 : b.natAbs = 0
    · rw [h0]; decide
    · have := (Nat.log2_lt h0).mpr h
      omega
  simp only [Bool.and_eq_false_iff, decide_eq_false_iff_not]
  left
  split <;> omega
theorem mul_small {a b : Int} (h : b.natAbs < 2 ^ 30) : IntMulOk a b := IntMulOk.of_right (by
  unfold Builtin.Int.intBits
  by_cases h0 : b.natAbs = 0
  · rw [h0]
    have : Nat.log2 0 = 0 := by decide
    split <;> omega
  · have := (Nat.log2_lt h0).mpr h
    split <;> omega)
theorem le_line {k : Nat} (h : k ≤ 1000) : k ≤ sizeLine := by rw [sizeLine_eq]; omega
section
variable {C : Cx} {σ : Sg} {n : Nat}
theorem j_unpack2 {env : Env} {pos : Pos} {t : Addr} {a b : Value} {x y : Str} {px py : Pos} {k : Nat} {R : Unit → Sg → Prop} (O : Ok C n) (ht : TI σ.H t [a, b]) (h : J C (storeName env x a) σ fun _ σ₁ => J C (storeName env y b) σ₁ R) :
    J C (assign (.Tuple [.Name x px, .Name y py] k pos) env (.ref t)) σ R := by
  refine j_unpack O ht rfl rfl ?_
  show J C (assignInOrder [assign (.Name x px) env, assign (.Name y py) env] [a, b]) σ R
  exact j_orderCons (j_assignName (j_mono h fun _ _ h₁ => j_orderCons (j_assignName (j_mono h₁ fun _ _ h₂ => j_orderNil h₂))))
theorem ints_at {vs : List Value} {ns : List Int} (h : IntsAre vs ns) {i : Nat} {v : Value} (e : vs[i]? = some v) : ∃ (hi : i < ns.length) (t : Tok), v = .int ns[i] t := by
  obtain ⟨m, t, rfl, e2⟩ := h.at i v e
  obtain ⟨hi, e3⟩ := List.getElem?_eq_some_iff.mp e2
  exact ⟨hi, t, by rw [e3]⟩
theorem ints_snoc {ys : List Value} {ns : List Int} {i : Nat} (h : IntsAre ys (ns.take i)) (hi : i < ns.length) (t : Tok) : IntsAre (ys ++ [.int ns[i] t]) (ns.take (i + 1)) := by
  rw [List.take_succ_eq_append_getElem hi]
  exact h.append (.cons _ _ .nil)
theorem f_columns {x : Str} {t : Tok} {vs : List (Option Value)} {H : PH} {R : Value → Sg → Prop} (O : Ok C (n + 1)) (hx : x.cps.all (· < 128) = true)
    (h : ∀ a items H', H.le H' → PL H' a items → IntsAre items (cols x.cps.toList) → R (.ref a) ⟨vs, H'⟩) : J C (PySem.call (.ref 235) [.str x t]) ⟨vs, H⟩ R := by
  refine j_callC [Str.ofString "lead", Str.ofString "columns"] [some (.str x t), none] O (by k_is) (by k_is) [(Str.ofString "lead", .str x t)] (by rfl) (fun L => ?_) ?_ (by decide) rfl rfl rfl fun A' base' L' H₁ O' hle₁ hcell => ?_
  · intro y hy
    rw [List.mem_singleton] at hy
    subst hy
    exact .inl rfl
  · exact (look_one _ _ _).symm
  obtain ⟨nc, oc, ec, dc⟩ := hcell (Str.ofString "sign") (L' + 1) rfl
  walk_at "jx"
  refine j_newList (le_line (by simp)) fun l0 hl0 => ?_
  walk_at "jx"
  refine j_repL PL.new (by decide) (by decide) fun l1 hl1 => ?_
  walk_at "jx"
  refine j_iterStr hx fun it F hF hIt => ?_
  refine forAt_iter (iter_str O') hF hIt (fun i σ' => H.le σ'.H ∧ (∃ o, σ'.H (L' + 1) = some o ∧ ∃ v, o.data = .cell v) ∧ ∃ a items, σ'.vs = [some (.str x t), some (.ref a)] ∧ PL σ'.H a items ∧ IntsAre items (cols (x.cps.toList.take i))) ?_ (fun _ _ _ => trivial) ?_ ?_
  · refine ⟨PH.le_trans hle₁ (PH.le_trans (PH.le_set hl0) (PH.le_set hl1)), ⟨oc, PH.le_set hl1 _ _ (PH.le_set hl0 _ _ ec), _, dc⟩, _, _, rfl, PL.new, ?_⟩
    exact .cons _ _ (.cons _ _ (.cons _ _ (.cons _ _ (.cons _ _ (.cons _ _ (.cons _ _ .nil))))))
  · rintro i ⟨vs', H'⟩ v hlt ⟨hle, ⟨oc', eo, dv, ed⟩, a, items, hvs, hpl, hint⟩ ⟨c, u, hc, rfl⟩
    dsimp only at hvs hle eo hpl; subst hvs
    walk_at "jx"
    refine j_storeCell (c := L' + 1) (by rfl) eo ed (fun o2 hd2 => ?_) (by rfl) (by rfl)
    walk_at "jx"
    refine j_setComp (n := n) O' (cl := [(Str.ofString "sign", L' + 1)]) (ns := [Str.ofString "size", Str.ofString "c"]) (by rfl) (by rfl) (by decide) rfl (by decide) (by decide) (by intro _; rfl) ?_
    walk_at "jx"
    have hlen : items.length = 7 := by rw [hint.length, cols_length]
    have hpl2 : PL (H'.set (L' + 1) o2) a items := by
      obtain ⟨k, ek⟩ := hpl
      refine ⟨k, ?_⟩
      rw [PH.set_ne (fun q => by subst q; rw [eo] at ek; cases ek; cases ed)]; exact ek
    refine j_enum hpl2.il fun e it F2 hF2 hE => ?_
    walk_at "jx"
    refine j_iterEnum hF2 hE ?_
    refine compAt_iterX (n := n) (ns := [Str.ofString "size", Str.ofString "c"]) (by rw [hlen]; decide) (fun _ _ h => h.le le_both) (fun base' L'' O'' => iter_enum O'') hF2 hE (fun j ys Hc => (H'.set (L' + 1) o2).le Hc ∧ IntsAre ys ((colStep c (cols (x.cps.toList.take i))).take j)) ?_ (fun _ _ _ h => hpl2.il.le h.1) ?_ ?_
    · exact ⟨PH.le_refl _, .nil⟩
    · rintro base' L'' O'' i2 ys Hc X v vs' hi2 hvl ⟨hle2, hys⟩ ⟨T, t2, c0, rfl, hx0, rfl⟩ hdX
      obtain ⟨v1, v2, rfl⟩ : ∃ v1 v2, vs' = [v1, v2] := by
        rcases vs' with _ | ⟨a1, _ | ⟨a2, _ | ⟨_, _⟩⟩⟩
        · cases hvl
        · cases hvl
        · exact ⟨_, _, rfl⟩
        · cases hvl
      obtain ⟨hic, t3, rfl⟩ := ints_at hint hx0
      have hTL : TL (Hc.both (PH.one T (tupOf [.int ((i2 : Int) + 1) t2, .int _ t3] 0))) T [.int ((i2 : Int) + 1) t2, .int (cols (x.cps.toList.take i))[i2] t3] := ⟨0, by rw [PH.both_right (disj_at hdX), PH.one_self]⟩
      have hcell2 : CellAt (Hc.both (PH.one T (tupOf [.int ((i2 : Int) + 1) t2, .int (cols (x.cps.toList.take i))[i2] t3] 0))) (L' + 1) (.str ⟨#[c]⟩ u) := ⟨o2, PH.both_left (hle2 _ _ PH.set_self), hd2⟩
      refine j_unpack2 O'' hTL.ti ?_
      walk_at "jx"
      refine j_tests0 ⟨fun _ => ?_, fun hh => nomatch hh⟩
      have hcs : i2 < (colStep c (cols (x.cps.toList.take i))).length := by rw [colStep_length]; exact hic
      have hval : (colStep c (cols (x.cps.toList.take i)))[i2] = colF c ((i2 : Int) + 1) (cols (x.cps.toList.take i))[i2] := colStep_get hcs hic
      have hi7 : i2 < 7 := by rw [← hlen]; exact hi2
      have hsz : ((i2 : Int) + 1).natAbs < 2 ^ 30 := by omega
      have fin : ∀ tt, IntsAre (ys ++ [.int (colF c ((i2 : Int) + 1) (cols (x.cps.toList.take i))[i2]) tt]) ((colStep c (cols (x.cps.toList.take i))).take (i2 + 1)) := fun tt => by
        rw [← hval]; exact ints_snoc hys hcs tt
      refine j_ifexp ?_
      walk_at "jx"
      refine j_cell (by rfl) hcell2 ?_ (by rfl) (by rfl) (by decide)
      walk_at "jx"
      by_cases h9 : c = 9
      · have e9 : (({ cps := #[c] } : Str).cps.toList == (Str.ofString "\t").cps.toList) = true := by rw [h9]; decide
        rw [e9, if_pos rfl]
        walk_at "jx"
        refine j_divI (by omega) (div_small hsz) fun _ => ?_
        walk_at "jx"
        refine j_mulI (mul_small hsz) fun tt => ⟨rfl, PH.le_trans hle2 le_both, ?_⟩
        have := fin tt
        rw [colF, if_pos h9] at this
        exact this
      · have e9 : (({ cps := #[c] } : Str).cps.toList == (Str.ofString "\t").cps.toList) = false := by
          have : (Str.ofString "\t").cps.toList = [9] := by decide
          rw [this]
          simpa using h9
        rw [e9, if_neg (by decide)]
        walk_at "jx"
        refine ⟨rfl, PH.le_trans hle2 le_both, ?_⟩
        have := fin (by assumption)
        rw [colF, if_neg h9] at this
        exact this
    · rintro D ys Hc k hD ⟨hle2, hys⟩
      walk_at "jx"
      have e7 : (colStep c (cols (x.cps.toList.take i))).take items.length = colStep c (cols (x.cps.toList.take i)) := List.take_of_length_le (by rw [colStep_length, cols_length, hlen]; decide)
      rw [e7, ← cols_snoc, ← take_snoc (l := x.cps.toList) (by simpa using hc)] at hys
      exact ⟨PH.le_trans (PH.le_trans (le_setN hle nc) hle2) (PH.le_set hD), ⟨o2, PH.le_set hD _ _ (hle2 _ _ PH.set_self), _, hd2⟩, D, ys, rfl, PL.new, hys⟩
  · rintro ⟨vs', H'⟩ ⟨hle, _, a, items, hvs, hpl, hint⟩
    dsimp only at hvs hle hpl; subst hvs
    walk_at "js"
    rw [List.take_of_length_le (by simp)] at hint
    exact h a items H' hle hpl hint
end
end Mine

namespace Mine
def notBelow (a b : List Int) : Bool := (a.zip b).any fun p => decide (p.2 ≤ p.1)
def scan (ge : Nat → Nat → Bool) (k : Nat) : Nat → Nat
  | 0 => 0
  | j + 1 => if (List.range' (j + 2) (k - (j + 1))).any (fun m => ge (j + 1) m) then scan ge k j else j + 1
def scanned (ge : Nat → Nat → Bool) : List Int := [0, (scan ge 1 0 : Nat), (scan ge 2 1 : Nat), (scan ge 3 2 : Nat), (scan ge 4 3 : Nat), (scan ge 5 4 : Nat)]
/-- a list of lists of ints -/
def Rows (H : PH) (tb : Addr) (rows : List (List Int)) : Prop := ∃ refs, IL H tb refs ∧ refs.length = rows.length ∧ ∀ i (h : i < rows.length), ∃ a items, refs[i]? = some (.ref a) ∧ IL H a items ∧ IntsAre items rows[i]
theorem Rows.le {H H' : PH} {tb : Addr} {rows : List (List Int)} (h : Rows H tb rows) (l : H.le H') : Rows H' tb rows := by
  obtain ⟨refs, h1, h2, h3⟩ := h
  refine ⟨refs, h1.le l, h2, fun i hi => ?_⟩
  obtain ⟨a, items, e1, e2, e3⟩ := h3 i hi
  exact ⟨a, items, e1, e2.le l, e3⟩
theorem IL.setC {H : PH} {a c : Addr} {items : List Value} {oc o : Obj} {v : Option Value} (h : IL H a items) (hc : H c = some oc) (hd : oc.data = .cell v) : IL (H.set c o) a items := by
  obtain ⟨oa, e, ct, m, d⟩ := h
  exact ⟨oa, by rw [PH.set_ne (fun q => by subst q; rw [hc] at e; cases e; rw [hd] at d; cases d)]; exact e, ct, m, d⟩
theorem PL.setC {H : PH} {a c : Addr} {items : List Value} {oc o : Obj} {v : Option Value} (h : PL H a items) (hc : H c = some oc) (hd : oc.data = .cell v) : PL (H.set c o) a items := by
  obtain ⟨m, e⟩ := h
  exact ⟨m, by rw [PH.set_ne (fun q => by subst q; rw [hc] at e; cases e; cases hd)]; exact e⟩
theorem Rows.setC {H : PH} {tb c : Addr} {rows : List (List Int)} {oc o : Obj} {v : Option Value} (h : Rows H tb rows) (hc : H c = some oc) (hd : oc.data = .cell v) : Rows (H.set c o) tb rows := by
  obtain ⟨refs, h1, h2, h3⟩ := h
  refine ⟨refs, h1.setC hc hd, h2, fun i hi => ?_⟩
  obtain ⟨a, items, e1, e2, e3⟩ := h3 i hi
  exact ⟨a, items, e1, e2.setC hc hd, e3⟩
def PH.del (H : PH) (a : Addr) : PH := fun b => if b = a then none else H b
theorem del_le {H : PH} {a : Addr} : (H.del a).le H := fun b o e => by
  unfold PH.del at e
  split at e
  · cases e
  · exact e
theorem del_self {H : PH} {a : Addr} : (H.del a) a = none := by unfold PH.del; rw [if_pos rfl]
theorem del_ne {H : PH} {a b : Addr} (n : b ≠ a) : (H.del a) b = H b := by unfold PH.del; rw [if_neg n]
theorem le_del {H H' : PH} {a : Addr} (h : H.le H') (n : H a = none) : H.le (H'.del a) := fun b o e => by
  rw [del_ne (fun q => by subst q; rw [n] at e; cases e)]
  exact h b o e
theorem none_le {H H' : PH} {a : Addr} (h : H.le H') (n : H' a = none) : H a = none := by
  cases e : H a with
  | none => rfl
  | some o => have := h a o e; rw [n] at this; cases this
theorem IL.delC {H : PH} {a c : Addr} {items : List Value} {oc : Obj} {v : Option Value} (h : IL H a items) (hc : H c = some oc) (hd : oc.data = .cell v) : IL (H.del c) a items := by
  obtain ⟨oa, e, ct, m, d⟩ := h
  exact ⟨oa, by rw [del_ne (fun q => by subst q; rw [hc] at e; cases e; rw [hd] at d; cases d)]; exact e, ct, m, d⟩
theorem Rows.delC {H : PH} {tb c : Addr} {rows : List (List Int)} {oc : Obj} {v : Option Value} (h : Rows H tb rows) (hc : H c = some oc) (hd : oc.data = .cell v) : Rows (H.del c) tb rows := by
  obtain ⟨refs, h1, h2, h3⟩ := h
  refine ⟨refs, h1.delC hc hd, h2, fun i hi => ?_⟩
  obtain ⟨a, items, e1, e2, e3⟩ := h3 i hi
  exact ⟨a, items, e1, e2.delC hc hd, e3⟩
theorem PL.ne_cell {H : PH} {a c : Addr} {items : List Value} {oc : Obj} {v : Option Value} (h : PL H a items) (hc : H c = some oc) (hd : oc.data = .cell v) : c ≠ a := fun q => by
  obtain ⟨m, e⟩ := h
  rw [← q, hc] at e; cases e; cases hd
def CellIs (H : PH) (c : Addr) (v : Option Value) : Prop := ∃ o, H c = some o ∧ o.data = .cell v
theorem CellIs.le {H H' : PH} {c : Addr} {v : Option Value} (h : CellIs H c v) (l : H.le H') : CellIs H' c v := let ⟨o, e, d⟩ := h; ⟨o, l _ _ e, d⟩
theorem CellIs.set {H : PH} {c c' : Addr} {v : Option Value} {o : Obj} (h : CellIs H c v) (n : c ≠ c') : CellIs (H.set c' o) c v := let ⟨o', e, d⟩ := h; ⟨o', by rw [PH.set_ne n]; exact e, d⟩
theorem filter_snoc {α : Type} {l : List α} {f : α → Bool} {e : Nat} (he : e < l.length) : (l.take (e + 1)).filter f = (l.take e).filter f ++ if f l[e] then [l[e]] else [] := by
  rw [List.take_succ_eq_append_getElem he, List.filter_append, List.filter_cons, List.filter_nil]
theorem range_snoc {f : Nat → Bool} {d : Nat} : (List.range (d + 1)).filter f = (List.range d).filter f ++ if f d then [d] else [] := by
  rw [List.range_succ, List.filter_append, List.filter_cons, List.filter_nil]
theorem not_nil {α β : Type} [DecidableEq β] (l : List α) (f : α → Bool) (g : α → β) : (!decide ((l.filter f).map g = [])) = l.any f := by
  rw [Bool.eq_iff_iff]
  simp
theorem take_snoc' {α : Type} {l : List α} {i : Nat} {c : α} (h : l[i]? = some c) : l.take (i + 1) = l.take i ++ [c] := by
  obtain ⟨hi, e⟩ := List.getElem?_eq_some_iff.mp h
  rw [List.take_succ_eq_append_getElem hi, e]
theorem scanned_get {ge : Nat → Nat → Bool} {i : Nat} (h : i < 5) : (scanned ge)[i + 1]? = some ((scan ge (i + 1) i : Nat) : Int) := by
  rcases i with _ | _ | _ | _ | _ | i
  iterate 5 rfl
  omega
section
variable {C : Cx} {σ : Sg} {n : Nat} {env : Env} {x : Str} {v : Value}
theorem j_cellLoad {c : Addr} {R : Value → Sg → Prop} (hc : env.cells.lookup x = some c) (hv : CellAt σ.H c v) (h : R v σ) (hk : env.scope.kind = .function := by rfl) (hx : env.kindOf x = some .cell := by rfl) : J C (loadName env x) σ R :=
  j_same h fun s Q hs q => let ⟨o, ho, e⟩ := hv; wpAny_loadName_cell hk hx hc ⟨o, hs.get ho, e⟩ (q s.toks)
end
section
variable {C : Cx} {σ : Sg} {n : Nat}
theorem f_owners {lr : Addr} {items : List Value} {xs : List Str} {vs : List (Option Value)} {H : PH} {R : Value → Sg → Prop} (O : Ok C (n + 2)) (hl : IL H lr items) (hs : StrsAre' items xs) (h6 : xs.length = 6) (hx : ∀ x ∈ xs, x.cps.all (· < 128) = true)
    (h0 : ∀ m, 1 ≤ m → m < 6 → notBelow (cols (xs.getD 0 Str.empty).cps.toList) (cols (xs.getD m Str.empty).cps.toList) = false)
    (h : ∀ a items H', H.le H' → PL H' a items → IntsAre items (scanned fun i j => notBelow (cols (xs.getD i Str.empty).cps.toList) (cols (xs.getD j Str.empty).cps.toList)) → R (.ref a) ⟨vs, H'⟩) : J C (PySem.call (.ref 240) [.ref lr]) ⟨vs, H⟩ R := by
  refine j_callC [Str.ofString "leads", Str.ofString "owners", Str.ofString "k"] [some (.ref lr), none, none] O (by k_is) (by k_is) [(Str.ofString "leads", .ref lr)] (by rfl) (fun L => ?_) ?_ (by decide) rfl rfl rfl fun A' base' L' H₁ O' hle₁ hcell => ?_
  · intro y hy
    rw [List.mem_singleton] at hy
    subst hy
    exact .inl rfl
  · exact (look_one _ _ _).symm
  obtain ⟨nc, oc, ec, dc⟩ := hcell (Str.ofString "table") (L' + 1) rfl
  obtain ⟨nc2, oc2, ec2, dc2⟩ := hcell (Str.ofString "j") (L' + 2) rfl
  walk_at "jx"
  have hl1 := hl.le hle₁
  obtain ⟨sl, rfl, hst⟩ := hs
  have hlen : (strValues sl).length = 6 := by rw [← h6, ← hst]; simp [strValues]
  refine j_comp (n := n + 1) O' (cl := []) (ns := [Str.ofString "lead"]) (by rfl) (by decide) rfl (by decide) (by decide) (by intro _; rfl) ?_
  walk_at "jx"
  refine j_iterList O' hl1 fun it F hF hIt => ?_
  refine compAt_iter (n := n + 1) (by rw [hlen]; decide) (fun _ _ h => h.le le_both) (fun base' L'' O'' => iter_list O'') hF hIt
    (fun i ys Hc => H₁.le Hc ∧ ys.length = i ∧ ∀ j (hj : j < i), ∃ a its, ys[j]? = some (.ref a) ∧ IL Hc a its ∧ IntsAre its (cols (xs.getD j Str.empty).cps.toList)) ?_ (fun _ _ _ h => hl1.le h.1) ?_ ?_
  · exact ⟨PH.le_refl _, rfl, fun j hj => absurd hj (Nat.not_lt_zero j)⟩
  · rintro base' L'' O'' i ys Hc v vs' hi hvl ⟨hle2, hyl, hys⟩ hv
    obtain ⟨v1, rfl⟩ : ∃ v1, vs' = [v1] := by
      rcases vs' with _ | ⟨a1, _ | ⟨_, _⟩⟩
      · cases hvl
      · exact ⟨_, rfl⟩
      · cases hvl
    obtain ⟨x, t, rfl, hxi⟩ : ∃ x t, v = .str x t ∧ xs[i]? = some x := by
      simp only [strValues, List.getElem?_map] at hv
      cases e : sl[i]? with
      | none => rw [e] at hv; cases hv
      | some p =>
        rw [e] at hv
        refine ⟨p.1, p.2, (Option.some.inj hv).symm, ?_⟩
        rw [← hst, List.getElem?_map, e]; rfl
    walk_at "jx"
    refine j_tests0 ⟨fun _ => ?_, (fun hh => nomatch hh)⟩
    walk_at "jx"
    refine f_columns O'' (hx x (List.mem_of_getElem? hxi)) fun a its H3 hle3 hpl hint => ⟨rfl, PH.le_trans hle2 hle3, by simp [hyl], fun j hj => ?_⟩
    by_cases hji : j < i
    · obtain ⟨a', its', e1, e2, e3⟩ := hys j hji
      exact ⟨a', its', by rw [List.getElem?_append_left (by rw [hyl]; exact hji)]; exact e1, e2.le hle3, e3⟩
    · have : j = i := by omega
      subst this
      refine ⟨a, its, by rw [List.getElem?_append_right (by omega), hyl]; simp, hpl.il, ?_⟩
      rw [List.getD_eq_getElem?_getD, hxi]; exact hint
  rintro tb refs Ht kt htb ⟨hle2, hrl, hrefs⟩
  rw [hlen] at hrl hrefs
  have hle3 : H₁.le (Ht.set tb (listOf refs.toArray kt)) := PH.le_trans hle2 (PH.le_set htb)
  refine j_storeCell (c := L' + 1) (by rfl) (hle3 _ _ ec) dc (fun ot hot => ?_) (by rfl) (by rfl)
  generalize hge : (fun i j => notBelow (cols (xs.getD i Str.empty).cps.toList) (cols (xs.getD j Str.empty).cps.toList)) = ge at h
  generalize hrows : (List.range 6).map (fun j => cols (xs.getD j Str.empty).cps.toList) = rows
  have hrl6 : rows.length = 6 := by rw [← hrows]; simp
  have hrow : ∀ i (hi : i < rows.length), rows[i] = cols (xs.getD i Str.empty).cps.toList := fun i hi => by subst hrows; simp
  obtain ⟨Hb, b1, b2, b3, b4, b5⟩ : ∃ Hb : PH, H.le Hb ∧ Rows Hb tb rows ∧ CellIs Hb (L' + 1) (some (.ref tb)) ∧ Hb (L' + 2) = none ∧ Hb.le ((Ht.set tb (listOf refs.toArray kt)).set (L' + 1) ot) := by
    have hR : Rows (Ht.set tb (listOf refs.toArray kt)) tb rows := ⟨refs, PL.new.il, by rw [hrl6]; exact hrl, fun i hi => by
      obtain ⟨a, its, e1, e2, e3⟩ := hrefs i (by rw [← hrl6]; exact hi)
      exact ⟨a, its, e1, e2.le (PH.le_set htb), by rw [hrow]; exact e3⟩⟩
    have e2' : ((Ht.set tb (listOf refs.toArray kt)).set (L' + 1) ot) (L' + 2) = some oc2 := by rw [PH.set_ne (neN (by omega))]; exact hle3 _ _ ec2
    refine ⟨((Ht.set tb (listOf refs.toArray kt)).set (L' + 1) ot).del (L' + 2), le_del (le_setN (PH.le_trans hle₁ hle3) nc) nc2, (hR.setC (hle3 _ _ ec) dc).delC e2' dc2, ⟨ot, ?_, hot⟩, del_self, del_le⟩
    rw [del_ne (neN (by omega)), PH.set_self]
  have b6 : CellIs ((Ht.set tb (listOf refs.toArray kt)).set (L' + 1) ot) (L' + 2) _ := ⟨oc2, by rw [PH.set_ne (neN (by omega))]; exact hle3 _ _ ec2, dc2⟩
  generalize (Ht.set tb (listOf refs.toArray kt)).set (L' + 1) ot = H4 at b5 b6
  walk_at "jx"
  refine j_newList (le_line (by simp)) fun ow how => ?_
  have b7 : Hb ow = none := none_le b5 how
  walk_at "jx"
  refine j_range2 fun r _ _ _ hr => ?_
  refine j_iterRange O' (N := 5) PH.set_self (by decide) (by decide) fun it F hF hIt => ?_
  refine forAt_iter (iter_range O') hF hIt (fun i σ' => Hb.le σ'.H ∧ (∃ v, CellIs σ'.H (L' + 2) v) ∧ ∃ ok oi, σ'.vs = [some (.ref lr), some (.ref ow), ok] ∧ PL σ'.H ow oi ∧ IntsAre oi ((scanned ge).take (i + 1))) ?_ (fun _ _ _ => trivial) ?_ ?_
  · refine ⟨PH.le_trans b5 (PH.le_trans (PH.le_set how) (PH.le_set hr)), ⟨_, b6.le (PH.le_trans (PH.le_set how) (PH.le_set hr))⟩, _, _, rfl, PL.new.le (PH.le_set hr), ?_⟩
    exact .cons _ _ .nil
  · rintro i ⟨vs', H'⟩ v hi ⟨hle, ⟨vj, oj, ej, dj⟩, ok, oi, hvs, hpl, hint⟩ ⟨t, rfl⟩
    dsimp only at hvs hle ej hpl; subst hvs
    walk_at "jx"
    refine j_storeCell (c := L' + 2) (by rfl) ej dj (fun oj1 hj1 => ?_) (by rfl) (by rfl)
    have e11 : 1 + 1 * (i : Int) - 1 = (i : Int) := by omega
    rw [e11] at hj1
    walk_at "jx"
    refine j_while (fun m σ' => Hb.le σ'.H ∧ (∃ tj, CellIs σ'.H (L' + 2) (some (.int (m : Int) tj))) ∧ σ'.vs = [some (.ref lr), some (.ref ow), some (.int (1 + 1 * (i : Int)) t)] ∧ PL σ'.H ow oi ∧ m ≤ i ∧ scan ge (i + 1) m = scan ge (i + 1) i) i ?_ ?_
    · exact ⟨le_setN hle b4, ⟨_, oj1, PH.set_self, hj1⟩, rfl, hpl.setC ej dj, Nat.le_refl _, rfl⟩
    rintro m ⟨vs', H2⟩ ⟨hle2, ⟨tj, hJ2⟩, hvs, hpl2, hm, hsc⟩
    dsimp only at hvs hle2 hJ2 hpl2; subst hvs
    have hR2 : Rows H2 tb rows := b2.le hle2
    have hT2 : CellIs H2 (L' + 1) (some (.ref tb)) := b3.le hle2
    have hrl := hrl6
    walk_at "jx"
    refine j_comp (n := n + 1) O' (cl := [(Str.ofString "table", L' + 1), (Str.ofString "j", L' + 2)]) (ns := [Str.ofString "m"]) (by rfl) (by decide) rfl (by decide) (by decide) (by intro _; rfl) ?_
    walk_at "jx"
    obtain ⟨oj2, ej2, dj2⟩ := hJ2
    refine j_cell (by rfl) ⟨oj2, ej2, dj2⟩ ?_ (by rfl) (by rfl) (by decide)
    walk_at "jx"
    refine j_range2 fun r2 _ _ _ hr2 => ?_
    have hz : (((1 + 1 * (i : Int)) + 1) - ((m : Int) + 1)) = ((i + 1 - m : Nat) : Int) := by omega
    refine j_iterRange O' (N := i + 1 - m) PH.set_self ?_ ?_ fun it2 F2 hF2 hIt2 => ?_
    · exact small_one (by omega) (by omega) (by omega) (by omega)
    · rw [rangeSize_nat]; omega
    refine compAt_iter (n := n + 1) (by omega) (fun _ _ _ => trivial) (fun base' L'' O'' => iter_range O'') hF2 hIt2
      (fun d ys Hc => H2.le Hc ∧ IntsAre ys (((List.range d).filter (fun e => ge m (m + 1 + e))).map (fun e => ((m + 1 + e : Nat) : Int)))) ?_ (fun _ _ _ _ => trivial) ?_ ?_
    · exact ⟨PH.le_set hr2, .nil⟩
    · rintro base' L'' O'' d ys Hc v vs' hd hvl ⟨hle3, hys⟩ ⟨t4, rfl⟩
      obtain ⟨v1, rfl⟩ : ∃ v1, vs' = [v1] := by
        rcases vs' with _ | ⟨a1, _ | ⟨_, _⟩⟩
        · cases hvl
        · exact ⟨_, rfl⟩
        · cases hvl
      walk_at "jx"
      refine j_tests1 ?_
      walk_at "jx"
      refine j_comp (n := n + 1) O'' (cl := []) (ns := [Str.ofString "a", Str.ofString "b"]) (by rfl) (by decide) rfl (by decide) (by decide) (by intro _; rfl) ?_
      have hm6 : m < rows.length := by rw [hrl]; omega
      have hd6 : m + 1 + d < rows.length := by rw [hrl]; omega
      obtain ⟨refs2, tl2, trl2, trows⟩ := hR2.le hle3
      obtain ⟨a1, its1, q1, q2, q3⟩ := trows m hm6
      obtain ⟨a2, its2, p1, p2, p3⟩ := trows (m + 1 + d) hd6
      have hlz : its1.length = its2.length := by rw [q3.length, p3.length, hrow, hrow, cols_length, cols_length]
      walk_at "jx"
      refine j_cell (by rfl) (hT2.le hle3) ?_ (by rfl) (by rfl) (by decide)
      walk_at "jx"
      refine j_cell (by rfl) ⟨oj2, hle3 _ _ ej2, dj2⟩ ?_ (by rfl) (by rfl) (by decide)
      refine at_L tl2 (by omega) (by omega) (x := .ref a1) (by rw [Int.toNat_natCast]; exact q1) ?_
      walk_at "jx"
      refine j_cell (by rfl) (hT2.le hle3) ?_ (by rfl) (by rfl) (by decide)
      walk_at "jx"
      refine at_L tl2 (by omega) (by omega) (x := .ref a2) ?_ ?_
      · have e : ((m : Int) + 1 + 1 * (d : Int)).toNat = m + 1 + d := by omega
        rw [e]; exact p1
      walk_at "jx"
      refine j_zip q2 p2 fun z Fz hFz hZ => ?_
      walk_at "jx"
      refine j_iterZip hFz hZ ?_
      refine compAt_iterX (n := n + 1) (by rw [q3.length, hrow, cols_length]; decide) (fun _ _ h => ⟨h.1.le le_both, h.2.le le_both⟩) (fun base' L'' O'' => iter_zip O'' hlz) hFz hZ
        (fun e ys Hd => Hc.le Hd ∧ IntsAre ys (((((rows[m]'hm6).zip (rows[m + 1 + d]'hd6)).take e).filter (fun p => decide (p.2 ≤ p.1))).map (·.1))) ?_ (fun _ _ _ h => ⟨q2.le h.1, p2.le h.1⟩) ?_ ?_
      · exact ⟨PH.le_refl _, .nil⟩
      · rintro base3 L3 O3 e ys2 Hd X v vs' he hvl3 ⟨hle4, hys2⟩ ⟨T, x1, x2, rfl, hx1, hx2, rfl⟩ hdX
        obtain ⟨v1, v2, rfl⟩ : ∃ v1 v2, vs' = [v1, v2] := by
          rcases vs' with _ | ⟨a1, _ | ⟨a2, _ | ⟨_, _⟩⟩⟩
          · cases hvl3
          · cases hvl3
          · exact ⟨_, _, rfl⟩
          · cases hvl3
        obtain ⟨hi1, t1, rfl⟩ := ints_at q3 hx1
        obtain ⟨hi2, t2, rfl⟩ := ints_at p3 hx2
        have hTL : TL (Hd.both (PH.one T (tupOf [.int (rows[m]'hm6)[e] t1, .int (rows[m + 1 + d]'hd6)[e] t2] 0))) T [.int (rows[m]'hm6)[e] t1, .int (rows[m + 1 + d]'hd6)[e] t2] := ⟨0, by rw [PH.both_right (disj_at hdX), PH.one_self]⟩
        refine j_unpack2 O3 hTL.ti ?_
        walk_at "jx"
        refine j_tests1 ?_
        walk_at "jx"
        have hez : e < ((rows[m]'hm6).zip (rows[m + 1 + d]'hd6)).length := by rw [List.length_zip]; omega
        have ezz : ((rows[m]'hm6).zip (rows[m + 1 + d]'hd6))[e] = ((rows[m]'hm6)[e], (rows[m + 1 + d]'hd6)[e]) := List.getElem_zip
        refine ⟨fun hc => ?_, fun hc => ⟨rfl, PH.le_trans hle4 le_both, ?_⟩⟩
        · walk_at "jx"
          refine ⟨rfl, PH.le_trans hle4 le_both, ?_⟩
          rw [filter_snoc hez, ezz, if_pos hc, List.map_append]
          exact hys2.append (.cons _ _ .nil)
        · rw [filter_snoc hez, ezz, if_neg (by rw [hc]; exact Bool.false_ne_true), List.append_nil]
          exact hys2
      · rintro D ys2 Hd kd hD ⟨hle4, hys2⟩
        walk_at "jx"
        refine j_newList (le_line (by simp)) fun en hen => ?_
        refine j_neLI O'' (PL.new.il.le (PH.le_set hen)) PL.new.il hys2 .nil ?_
        have hful : ((rows[m]'hm6).zip (rows[m + 1 + d]'hd6)).take its1.length = (rows[m]'hm6).zip (rows[m + 1 + d]'hd6) := List.take_of_length_le (by rw [List.length_zip, q3.length]; omega)
        have hgv : ((rows[m]'hm6).zip (rows[m + 1 + d]'hd6)).any (fun p => decide (p.2 ≤ p.1)) = ge m (m + 1 + d) := by
          rw [← hge, hrow, hrow]; rfl
        rw [hful, not_nil, hgv]
        have hle5 : H2.le ((Hd.set D (listOf ys2.toArray kd)).set en (listOf [].toArray 0)) := PH.le_trans hle3 (PH.le_trans hle4 (PH.le_trans (PH.le_set hD) (PH.le_set hen)))
        walk_at "jx"
        refine ⟨fun hc => ?_, fun hc => ⟨rfl, hle5, ?_⟩⟩
        · walk_at "jx"
          refine ⟨rfl, hle5, ?_⟩
          rw [range_snoc, if_pos hc, List.map_append]
          have e : ((m + 1 + d : Nat) : Int) = (m : Int) + 1 + 1 * (d : Int) := by omega
          rw [List.map_cons, List.map_nil, e]
          exact hys.append (.cons _ _ .nil)
        · rw [range_snoc, if_neg (by rw [hc]; exact Bool.false_ne_true), List.append_nil]
          exact hys
    rintro D ys Hd kd hD ⟨hle3, hys⟩
    walk_at "jx"
    refine j_newList (le_line (by simp)) fun en hen => ?_
    refine j_neLI O' (PL.new.il.le (PH.le_set hen)) PL.new.il hys .nil ?_
    rw [not_nil]
    walk_at "jx"
    have hle5 : H2.le ((Hd.set D (listOf ys.toArray kd)).set en (listOf [].toArray 0)) := PH.le_trans hle3 (PH.le_trans (PH.le_set hD) (PH.le_set hen))
    generalize (Hd.set D (listOf ys.toArray kd)).set en (listOf [].toArray 0) = H5 at hle5
    refine ⟨fun hc => ?_, fun hc => ?_⟩
    · walk_at "jx"
      refine j_cellLoad (by rfl) ⟨oj2, hle5 _ _ ej2, dj2⟩ ?_ (by rfl) (by rfl)
      walk_at "jx"
      refine j_isubI fun tn => ?_
      refine j_storeCell (c := L' + 2) (by rfl) (hle5 _ _ ej2) dj2 (fun oj3 hj3 => ?_) (by rfl) (by rfl)
      walk_at "jx"
      rcases m with _ | m
      · exfalso
        obtain ⟨e, he, hg⟩ := List.any_eq_true.mp hc
        have he' := List.mem_range.mp he
        have := h0 (0 + 1 + e) (by omega) (by omega)
        rw [← hge] at hg
        have hg' : notBelow (cols (xs.getD 0 Str.empty).cps.toList) (cols (xs.getD (0 + 1 + e) Str.empty).cps.toList) = true := hg
        rw [this] at hg'; cases hg'
      · refine ⟨m, by omega, le_setN (PH.le_trans hle2 hle5) b4, ⟨tn, oj3, PH.set_self, ?_⟩, rfl, (hpl2.le hle5).setC (hle5 _ _ ej2) dj2, by omega, ?_⟩
        · rw [hj3]
          have e : ((m + 1 : Nat) : Int) - 1 = (m : Int) := by omega
          rw [e]
        · rw [← hsc]
          show scan ge (i + 1) m = if (List.range' (m + 2) (i + 1 - (m + 1))).any (fun e => ge (m + 1) e) = true then scan ge (i + 1) m else m + 1
          rw [if_pos]
          rw [List.range'_eq_map_range, List.any_map]
          exact hc
    · walk_at "jx"
      refine j_gmAppend (hpl2.le hle5) ?_
      walk_at "jx"
      refine j_cell (by rfl) ⟨oj2, hle5 _ _ ej2, dj2⟩ ?_ (by rfl) (by rfl) (by decide)
      walk_at "jx"
      have hol : oi.length = i + 1 := by
        rw [hint.length, List.length_take]
        show min (i + 1) 6 = i + 1
        omega
      refine j_append (hpl2.le hle5) (le_line (by omega)) fun ka => ?_
      walk_at "jx"
      have hfalse : ∀ m', scan ge (i + 1) (m' + 1) = if (List.range (i + 1 - (m' + 1))).any (fun e => ge (m' + 1) (m' + 1 + 1 + e)) = true then scan ge (i + 1) m' else m' + 1 := fun m' => by
        show (if (List.range' (m' + 2) (i + 1 - (m' + 1))).any (fun e => ge (m' + 1) e) = true then scan ge (i + 1) m' else m' + 1) = _
        rw [List.range'_eq_map_range, List.any_map]
        rfl
      have hm0 : scan ge (i + 1) m = m := by
        rcases m with _ | m
        · rfl
        · rw [hfalse, if_neg (by rw [hc]; exact Bool.false_ne_true)]
      refine ⟨le_setN (PH.le_trans hle2 hle5) b7, ⟨_, oj2, ?_, dj2⟩, _, _, rfl, PL.new, ?_⟩
      · show (H5.set ow _) (L' + 2) = some oj2
        rw [PH.set_ne (PL.ne_cell (hpl2.le hle5) (hle5 _ _ ej2) dj2)]; exact hle5 _ _ ej2
      · rw [take_snoc' (scanned_get hi), ← hsc, hm0]
        exact hint.append (.cons _ _ .nil)
  · rintro ⟨vs', H'⟩ ⟨hle, _, ok, oi, hvs, hpl, hint⟩
    dsimp only at hvs hle hpl; subst hvs
    walk_at "js"
    exact h ow oi H' (PH.le_trans b1 hle) hpl hint
end
end Mine

namespace Mine
/-- the moves of a page: (k, what goes, mine, theirs) -/
abbrev Cut := Int × Int × Bool × Bool
def below (owners : List Nat) : Nat → Nat → Nat → Bool
  | 0, _, _ => false
  | f + 1, k, m => m == k || (m != 0 && below owners f k (owners.getD m 0))
def goneOf (owners : List Nat) (k : Nat) : Int := ([1, 2, 3, 4, 5].filter fun m => below owners 6 k m).foldl (fun g m => Builtin.bitOr g (1 * 2 ^ m)) 0
def cutsOf (owners : List Nat) (odd : List Bool) : List Cut := [1, 2, 3, 4, 5].map fun (k : Nat) => ((k : Int), goneOf owners k, !(odd.getD k false), odd.getD k false)
def movesGo (here : Int) : List Cut → List Int × List Int × List Int → Option (List Int × List Int × List Int)
  | [], s => some s
  | c :: r, s =>
    if Builtin.bitAnd here (1 * 2 ^ c.1.toNat) = 0 then movesGo here r s
    else
      let there := Builtin.bitAnd here (Builtin.bitNot c.2.1)
      if there = here then none
      else movesGo here r (if s.1.any (· == there) then s.1 else s.1 ++ [there], if c.2.2.1 then s.2.1 ++ [there] else s.2.1, if c.2.2.2 then s.2.2 ++ [there] else s.2.2)
def playGo (cuts : List Cut) : Nat → List Int → List (List Int × List Int) → Option (List Int × List (List Int × List Int))
  | 0, _, _ => none
  | f + 1, stands, ways =>
    match stands[ways.length]? with
    | none => some (stands, ways)
    | some here => match movesGo here cuts (stands, [], []) with
      | none => none
      | some s => playGo cuts f s.1 (ways ++ [s.2])
def worthOf (w : List (Int × Int)) (x : Int) : Int := ((w.find? fun p => p.1 == x).map (·.2)).getD 0
def bitAt (here : Int) (k : Nat) : Int := Builtin.bitAnd (here.fdiv (2 ^ k)) 1
def badAt (owners : List Nat) (here : Int) (k : Nat) : Bool := bitAt here k != 0 && (decide ((0 : Int) < (owners.getD k 0 : Nat)) && !(bitAt here (owners.getD k 0) != 0))
def dueBad (owners : List Nat) (here : Int) : Bool := [1, 2, 3, 4, 5].any (badAt owners here)
def liftN (x : Int) : Nat → Nat → Nat
  | 0, n => n
  | f + 1, n => if x + 64 * n ≤ 64 then liftN x f (n + 1) else n
def dueStep (owners : List Nat) (odd : List Bool) (here : Int) (hung : List Int) (k : Nat) : List Int :=
  if bitAt here k = 0 then hung else
    let turned : Int := if odd.getD k false then -1 else 1
    let x := turned * hung.getD k 0
    let n := liftN x 200 1
    hung.set (owners.getD k 0) (hung.getD (owners.getD k 0) 0 + turned * ((x + 64 * n).fdiv (2 ^ (n - 1))))
def dueAt (owners : List Nat) (odd : List Bool) (here : Int) : Int := ([5, 4, 3, 2, 1].foldl (dueStep owners odd here) [0, 0, 0, 0, 0, 0]).getD 0 0
def heres : List Int := (List.range 32).map fun (i : Nat) => 2 * (i : Int)
def dueOf (owners : List Nat) (odd : List Bool) : List (Int × Int) := (heres.filter fun h => !dueBad owners h).map fun h => (h, dueAt owners odd h)
def preorder (o : List Nat) : Bool := [2, 3, 4, 5].all fun k => (o.getD k 0 == 0) || below o 6 (o.getD k 0) (k - 1)
def trees : List (List Nat) := ([0, 1].flatMap fun b => [0, 1, 2].flatMap fun c => [0, 1, 2, 3].flatMap fun d => [0, 1, 2, 3, 4].map fun e => [0, 0, b, c, d, e]).filter preorder
def odds : List (List Bool) := [false, true].flatMap fun a => [false, true].flatMap fun b => [false, true].flatMap fun c => [false, true].flatMap fun d => [false, true].map fun e => [false, a, b, c, d, e]
def lawAt (owners : List Nat) (odd : List Bool) : Bool :=
  match playGo (cutsOf owners odd) 40 [62] [] with
  | none => false
  | some (stands, ways) =>
    let due := dueOf owners odd
    stands.length == due.length && (stands.zip ways).all fun p => due.any fun q => q.1 == p.1 && q.2 == simp (p.2.1.map (worthOf due)) (p.2.2.map (worthOf due)) 12 0 64 0
end Mine

namespace Mine
def PairsAre (kvs : List (Int × Value)) (ps : List (Int × Int)) : Prop := ∃ l : List (Int × Int × Tok), kvs = l.map (fun q => (q.1, .int q.2.1 q.2.2)) ∧ ps = l.map fun q => (q.1, q.2.1)
theorem PairsAre.nil : PairsAre [] [] := ⟨[], rfl, rfl⟩
theorem PairsAre.snoc {kvs : List (Int × Value)} {ps : List (Int × Int)} (h : PairsAre kvs ps) (k v : Int) (t : Tok) : PairsAre (kvs ++ [(k, .int v t)]) (ps ++ [(k, v)]) := by
  obtain ⟨l, rfl, rfl⟩ := h
  exact ⟨l ++ [(k, v, t)], by simp, by simp⟩
theorem PairsAre.keys {kvs : List (Int × Value)} {ps : List (Int × Int)} (h : PairsAre kvs ps) {k : Int} (hk : ∀ p ∈ ps, p.1 ≠ k) : ∀ p ∈ kvs, p.1 ≠ k := by
  obtain ⟨l, rfl, rfl⟩ := h
  intro p hp
  obtain ⟨q, hq, rfl⟩ := List.mem_map.mp hp
  exact hk (q.1, q.2.1) (List.mem_map.mpr ⟨q, hq, rfl⟩)
theorem PairsAre.length {kvs : List (Int × Value)} {ps : List (Int × Int)} (h : PairsAre kvs ps) : kvs.length = ps.length := by
  obtain ⟨l, rfl, rfl⟩ := h
  simp
def hungAt (owners : List Nat) (odd : List Bool) (here : Int) (i : Nat) : List Int := ([5, 4, 3, 2, 1].take i).foldl (dueStep owners odd here) [0, 0, 0, 0, 0, 0]
def dueTo (owners : List Nat) (odd : List Bool) (i : Nat) : List (Int × Int) := ((heres.take i).filter fun h => !dueBad owners h).map fun h => (h, dueAt owners odd h)
theorem dueTo_full (owners : List Nat) (odd : List Bool) : dueTo owners odd 32 = dueOf owners odd := rfl
theorem heres_at {i : Nat} (h : i < 32) : heres[i]? = some (0 + 2 * (i : Int)) := by
  unfold heres
  rw [List.getElem?_map, List.getElem?_range h]
  simp
theorem dueTo_snoc {owners : List Nat} {odd : List Bool} {i : Nat} (h : i < 32) : dueTo owners odd (i + 1) = dueTo owners odd i ++ if dueBad owners (0 + 2 * (i : Int)) then [] else [(0 + 2 * (i : Int), dueAt owners odd (0 + 2 * (i : Int)))] := by
  unfold dueTo
  rw [take_snoc' (heres_at h), List.filter_append, List.map_append]
  congr 1
  generalize 0 + 2 * (i : Int) = q
  rw [List.filter_cons, List.filter_nil]
  cases dueBad owners q <;> rfl
theorem dueTo_lt {owners : List Nat} {odd : List Bool} {i : Nat} : ∀ p ∈ dueTo owners odd i, p.1 ≠ 0 + 2 * (i : Int) := by
  intro p hp
  unfold dueTo heres at hp
  simp only [List.mem_map, List.mem_filter, ← List.map_take, List.take_range] at hp
  obtain ⟨_, ⟨⟨a, ha, rfl⟩, _⟩, rfl⟩ := hp
  have := List.mem_range.mp ha
  dsimp only
  omega
theorem dueTo_len {owners : List Nat} {odd : List Bool} {i : Nat} : (dueTo owners odd i).length ≤ 32 := by
  unfold dueTo
  rw [List.length_map]
  refine Nat.le_trans (List.length_filter_le _ _) ?_
  rw [List.length_take]
  have : heres.length = 32 := by decide
  omega
theorem dueStep_length {owners : List Nat} {odd : List Bool} {here : Int} {hung : List Int} {k : Nat} : (dueStep owners odd here hung k).length = hung.length := by
  unfold dueStep
  split
  · rfl
  · simp
def LiftOk (x : Int) (r : Nat) : Prop := 1 ≤ r ∧ r ≤ 201 ∧ 64 < x + 64 * (r : Int) ∧ (r = 1 ∨ x + 64 * (r : Int) ≤ 128)
theorem liftN_spec (x : Int) (hx : -12000 ≤ x) : ∀ (f n : Nat), n + f = 201 → 1 ≤ n → (n = 1 ∨ x + 64 * n ≤ 128) → LiftOk x (liftN x f n)
  | 0, n, h1, h2, h3 => ⟨h2, Nat.le_of_eq h1, by show 64 < x + 64 * (n : Int); omega, h3⟩
  | f + 1, n, h1, h2, h3 => by
    have e : liftN x (f + 1) n = if x + 64 * (n : Int) ≤ 64 then liftN x f (n + 1) else n := rfl
    rw [e]
    split
    · exact liftN_spec x hx f (n + 1) (by omega) (by omega) (.inr (by omega))
    · exact ⟨h2, by omega, by omega, h3⟩
theorem lift_val {x : Int} (hx : -12000 ≤ x) : ((x + 64 * (liftN x 200 1 : Nat)).fdiv (2 ^ (liftN x 200 1 - 1))).natAbs ≤ x.natAbs + 128 := by
  obtain ⟨h1, h2, h3, h4⟩ := liftN_spec x hx 200 1 rfl (Nat.le_refl _) (.inl rfl)
  generalize liftN x 200 1 = r at h1 h2 h3 h4 ⊢
  have hp : (0 : Int) < 2 ^ (r - 1) := Int.pow_pos (by decide)
  rw [Int.fdiv_eq_ediv_of_nonneg _ (Int.le_of_lt hp)]
  have a1 : 0 ≤ (x + 64 * (r : Int)) / 2 ^ (r - 1) := Int.ediv_nonneg (by omega) (Int.le_of_lt hp)
  have a2 : (x + 64 * (r : Int)) / 2 ^ (r - 1) ≤ x + 64 * (r : Int) := Int.ediv_le_self _ (by omega)
  rcases h4 with h4 | h4
  · subst h4; omega
  · omega
theorem getD_small {l : List Int} {B : Nat} (h : ∀ v ∈ l, v.natAbs ≤ B) (i : Nat) : (l.getD i 0).natAbs ≤ B := by
  rw [List.getD_eq_getElem?_getD]
  cases e : l[i]? with
  | none => simp
  | some v => exact h v (List.mem_of_getElem? e)
theorem step_val {t a b : Int} {B : Nat} (hB : B ≤ 6000) (ht : t.natAbs = 1) (ha : a.natAbs ≤ B) (hb : b.natAbs ≤ B) : (a + t * ((t * b + 64 * (liftN (t * b) 200 1 : Nat)).fdiv (2 ^ (liftN (t * b) 200 1 - 1)))).natAbs ≤ 2 * B + 128 := by
  have e : (t * b).natAbs = b.natAbs := by rw [Int.natAbs_mul, ht, Nat.one_mul]
  have hv := lift_val (x := t * b) (by omega)
  refine Nat.le_trans (Int.natAbs_add_le _ _) ?_
  rw [Int.natAbs_mul, ht, Nat.one_mul]
  omega
theorem dueStep_small {owners : List Nat} {odd : List Bool} {here : Int} {hung : List Int} {k B : Nat} (hB : B ≤ 6000) (h : ∀ v ∈ hung, v.natAbs ≤ B) : ∀ v ∈ dueStep owners odd here hung k, v.natAbs ≤ 2 * B + 128 := by
  intro v hv
  unfold dueStep at hv
  split at hv
  · have := h v hv; omega
  · rcases List.mem_or_eq_of_mem_set hv with hv | hv
    · have := h v hv; omega
    · subst hv
      exact step_val hB (by split <;> rfl) (getD_small h _) (getD_small h _)
theorem hungAt_small {owners : List Nat} {odd : List Bool} {here : Int} : ∀ i, ∀ v ∈ hungAt owners odd here i, v.natAbs ≤ 4000 := by
  have step : ∀ (l : List Nat) (hung : List Int) (B : Nat), (B + 128) * 2 ^ l.length ≤ 4128 → (∀ v ∈ hung, v.natAbs ≤ B) → ∀ v ∈ l.foldl (dueStep owners odd here) hung, v.natAbs ≤ 4000 := by
    intro l
    induction l with
    | nil => intro hung B hB h v hv; have := h v hv; simp only [List.length_nil] at hB; omega
    | cons k l ih =>
      intro hung B hB h
      have hp : 1 ≤ 2 ^ l.length := Nat.one_le_two_pow
      have e : (B + 128) * 2 ^ (k :: l).length = (2 * B + 128 + 128) * 2 ^ l.length := by rw [List.length_cons, Nat.pow_succ]; generalize 2 ^ l.length = q; rw [Nat.mul_comm q 2, ← Nat.mul_assoc]; congr 1; omega
      have hb : B ≤ 6000 := by
        have : B + 128 ≤ (B + 128) * 2 ^ (k :: l).length := Nat.le_mul_of_pos_right _ (Nat.two_pow_pos _)
        omega
      exact ih _ (2 * B + 128) (e ▸ hB) (dueStep_small hb h)
  intro i
  refine step _ _ 0 ?_ (by decide)
  have : ([5, 4, 3, 2, 1].take i).length ≤ 5 := by rw [List.length_take]; exact Nat.min_le_right _ _
  have := Nat.pow_le_pow_right (n := 2) (by decide) this
  omega
end Mine

namespace Mine
theorem DL.setC {C : Cx} {H : PH} {d c : Addr} {kvs : List (Int × Value)} {oc o : Obj} {v : Option Value} (h : DL C H d kvs) (hc : H c = some oc) (hd : oc.data = .cell v) : DL C (H.set c o) d kvs := by
  obtain ⟨h1, od, e, r⟩ := h
  refine ⟨h1, od, ?_, r⟩
  rw [PH.set_ne (fun q => by subst q; rw [hc] at e; cases e; obtain ⟨es, ep, _, r2, _⟩ := r; rw [hd] at r2; cases r2)]; exact e
theorem lt_big {k : Nat} (h : k < 1000) : (k : Int) < 2 ^ 63 := by omega
section
variable {owners : List Nat} {here : Int} {k : Nat} {b : Bool}
theorem badAt1 (h : (bitAt here k != 0) = false) : badAt owners here k = false := by unfold badAt; rw [h]; rfl
theorem badAt2 (h : (bitAt here k != 0) = true) (h2 : decide ((0 : Int) < (owners.getD k 0 : Nat)) = false) : badAt owners here k = false := by unfold badAt; rw [h, h2]; rfl
theorem badAt3 (h : (bitAt here k != 0) = true) (h2 : decide ((0 : Int) < (owners.getD k 0 : Nat)) = true) (h3 : (!(bitAt here (owners.getD k 0) != 0)) = b) : badAt owners here k = b := by unfold badAt; rw [h, h2, h3]; rfl
end
theorem hungAt_succ {owners : List Nat} {odd : List Bool} {here : Int} {j : Nat} (h : j < 5) : hungAt owners odd here (j + 1) = dueStep owners odd here (hungAt owners odd here j) (5 - j) := by
  unfold hungAt
  have e : [5, 4, 3, 2, 1][j]? = some (5 - j) := by
    rcases j with _ | _ | _ | _ | _ | j
    iterate 5 rfl
    omega
  rw [take_snoc' e, List.foldl_append]
  rfl
theorem hungAt_length {owners : List Nat} {odd : List Bool} {here : Int} {j : Nat} : (hungAt owners odd here j).length = 6 := by
  unfold hungAt
  generalize [5, 4, 3, 2, 1].take j = l
  have : ∀ (l : List Nat) (cs : List Int), cs.length = 6 → (l.foldl (dueStep owners odd here) cs).length = 6 := by
    intro l
    induction l with
    | nil => exact fun _ h => h
    | cons a l ih => exact fun cs h => ih _ (by rw [dueStep_length]; exact h)
  exact this l _ rfl
theorem odd_at {odd : List Bool} {k : Nat} (h6 : odd.length = 6) (hk : k < 6) : (odd.map Value.bool)[((k : Int)).toNat]? = some (.bool (odd.getD k false)) := by
  rw [Int.toNat_natCast, List.getElem?_map, List.getD_eq_getElem?_getD, List.getElem?_eq_getElem (h6 ▸ hk)]; rfl
theorem int_at {vs : List Value} {ns : List Int} (h : IntsAre vs ns) {k : Nat} (hk : k < ns.length) : ∃ t, vs[((k : Int)).toNat]? = some (.int (ns.getD k 0) t) :=
  h.get k _ (by rw [List.getD_eq_getElem?_getD, List.getElem?_eq_getElem hk]; rfl)
theorem mul_left {a b : Int} (h : a.natAbs < 2 ^ 30) : IntMulOk a b := IntMulOk.of_left (by
  unfold Builtin.Int.intBits
  by_cases h0 : a.natAbs = 0
  · rw [h0]
    have : Nat.log2 0 = 0 := by decide
    split <;> omega
  · have := (Nat.log2_lt h0).mpr h
    split <;> omega)
theorem mul_low {t b : Int} (ht : t.natAbs = 1) (hb : b.natAbs ≤ 4000) : -12000 ≤ t * b := by
  have e : (t * b).natAbs = b.natAbs := by rw [Int.natAbs_mul, ht, Nat.one_mul]
  omega
theorem lift_end {x : Int} {n : Nat} (hx : -12000 ≤ x) (h : n + 0 = 201) : ¬ x + 64 * (n : Int) ≤ 64 := by omega
theorem lift_go {x : Int} {f n : Nat} (h : decide (x + 64 * (n : Int) ≤ 64) = true) : liftN x (f + 1) n = liftN x f (n + 1) := if_pos (of_decide_eq_true h)
theorem lift_stop {x : Int} {n : Nat} (h : decide (x + 64 * (n : Int) ≤ 64) = false) : ∀ {f : Nat}, liftN x f n = n
  | 0 => rfl
  | _ + 1 => if_neg (of_decide_eq_false h)
theorem pow_small {n : Nat} (h : n ≤ 201) : (Builtin.Int.intBits 2 : Int) * ((n - 1 : Nat) : Int) ≤ 2 ^ 27 := by
  have : Builtin.Int.intBits 2 = 2 := by decide
  rw [this]; omega
theorem pow_ne (m : Nat) : (2 : Int) ^ ((m : Int)).toNat ≠ 0 := Int.ne_of_gt (Int.pow_pos (by decide))
theorem div_pow {a : Int} {n : Nat} (h : n ≤ 201) : Builtin.divisionGoesByPylong a ((2 : Int) ^ (((n - 1 : Nat) : Int)).toNat) = false := by
  have e : ((2 : Int) ^ (((n - 1 : Nat) : Int)).toNat).natAbs = 2 ^ (n - 1) := by rw [Int.natAbs_pow]; rfl
  unfold Builtin.divisionGoesByPylong
  simp only [e, Nat.log2_two_pow, Bool.and_eq_false_iff, decide_eq_false_iff_not]
  left
  split <;> omega
theorem le_same {H H' H'' : PH} {a : Addr} (h : H.le H') (n : H a = none) (hs : ∀ b, b ≠ a → H'' b = H' b) : H.le H'' := fun b o e => by
  rw [hs b (fun q => by subst q; rw [n] at e; cases e)]
  exact h b o e
theorem ints_set : ∀ {vs : List Value} {ns : List Int}, IntsAre vs ns → ∀ (i : Nat) (v : Int) (t : Tok), IntsAre (vs.set i (.int v t)) (ns.set i v)
  | _, _, .nil, _, _, _ => .nil
  | _, _, .cons n t h, 0, v, u => .cons v u h
  | _, _, .cons n t h, i + 1, v, u => .cons n t (ints_set h i v u)
theorem DL.ne_cell {C : Cx} {H : PH} {d c : Addr} {kvs : List (Int × Value)} {v : Option Value} (h : DL C H d kvs) (hc : CellIs H c v) : c ≠ d := fun q => by
  obtain ⟨h1, od, e, es, ep, _, r2, _⟩ := h
  obtain ⟨oc, e2, d2⟩ := hc
  rw [q, e] at e2; cases e2; rw [d2] at r2; cases r2
theorem own_at {oi : List Value} {owners : List Nat} (hi : IntsAre oi (owners.map fun (k : Nat) => (k : Int))) {k : Nat} (hk : k < owners.length) : ∃ t, oi[k]? = some (.int ((owners.getD k 0 : Nat) : Int) t) :=
  hi.get k _ (by rw [List.getElem?_map, List.getElem?_eq_getElem hk, List.getD_eq_getElem?_getD, List.getElem?_eq_getElem hk]; rfl)
section
variable {C : Cx} {σ : Sg} {n : Nat}
theorem f_due {ow od : Addr} {oi : List Value} {owners : List Nat} {odd : List Bool} {vs : List (Option Value)} {H : PH} {R : Value → Sg → Prop} (O : Ok C (n + 1)) (hl : IL H ow oi) (hi : IntsAre oi (owners.map fun (k : Nat) => (k : Int))) (h6 : owners.length = 6) (hlt : ∀ k, owners.getD k 0 < 6)
    (hod : IL H od (odd.map Value.bool)) (hb6 : odd.length = 6) (h : ∀ d kvs H', H.le H' → DL C H' d kvs → PairsAre kvs (dueOf owners odd) → R (.ref d) ⟨vs, H'⟩) : J C (PySem.call (.ref 245) [.ref ow, .ref od]) ⟨vs, H⟩ R := by
  refine j_callC [Str.ofString "odd", Str.ofString "due", Str.ofString "hung", Str.ofString "k", Str.ofString "turned", Str.ofString "x", Str.ofString "n"] [some (.ref od), none, none, none, none, none, none] O (by k_is) (by k_is) [(Str.ofString "owners", .ref ow), (Str.ofString "odd", .ref od)] (by rfl) (fun L => ?_) ?_ (by decide) rfl rfl rfl fun A' base' L' H₁ O' hle₁ hcell => ?_
  · intro y hy
    rcases List.mem_cons.mp hy with rfl | hy
    · exact .inr ⟨rfl, rfl⟩
    · rw [List.mem_singleton] at hy
      subst hy
      exact .inl rfl
  · exact (look_one _ _ _).symm
  obtain ⟨nc, oc, ec, dc⟩ := hcell (Str.ofString "owners") (L' + 1) rfl
  obtain ⟨nc2, oc2, ec2, dc2⟩ := hcell (Str.ofString "here") (L' + 2) rfl
  replace dc : oc.data = .cell (some (.ref ow)) := dc
  walk_at "jx"
  refine j_newD O' fun d od0 hd0 hD0 => ?_
  obtain ⟨B1, b1, b2, b3, b4, b5⟩ : ∃ B1 : PH, H.le B1 ∧ CellIs B1 (L' + 1) (some (.ref ow)) ∧ B1 (L' + 2) = none ∧ B1 d = none ∧ B1.le (H₁.set d od0) :=
    ⟨H₁.del (L' + 2), le_del hle₁ nc2, ⟨oc, by rw [del_ne (neN (.inl (Nat.lt_succ_self _)))]; exact ec, dc⟩, del_self, none_le del_le hd0, PH.le_trans del_le (PH.le_set hd0)⟩
  have c2 : CellIs (H₁.set d od0) (L' + 2) _ := ⟨oc2, PH.le_set hd0 _ _ ec2, dc2⟩
  generalize H₁.set d od0 = H2 at b5 c2 hD0
  walk_at "jx"
  refine j_range3 (by decide) (by rfl) fun r _ _ _ hr => ?_
  refine j_iterRange O' (N := 32) PH.set_self (by decide) (by decide) fun it F hF hIt => ?_
  refine forAt_iter (iter_range O') hF hIt (fun i σ' => B1.le σ'.H ∧ (∃ v, CellIs σ'.H (L' + 2) v) ∧ ∃ kvs o1 o2 o3 o4 o5, DL C σ'.H d kvs ∧ PairsAre kvs (dueTo owners odd i) ∧ σ'.vs = [some (.ref od), some (.ref d), o1, o2, o3, o4, o5]) ?_ (fun _ _ _ => trivial) ?_ ?_
  · exact ⟨PH.le_trans b5 (PH.le_set hr), ⟨_, c2.le (PH.le_set hr)⟩, [], _, _, _, _, _, hD0.le (PH.le_set hr), .nil, rfl⟩
  · rintro i ⟨vs', H'⟩ v hi' ⟨hle, ⟨vh, oh, eh, dh⟩, kvs, o1, o2, o3, o4, o5, hD, hP, hvs⟩ ⟨t, rfl⟩
    dsimp only at hvs hle eh hD; subst hvs
    walk_at "jx"
    refine j_storeCell (c := L' + 2) (by rfl) eh dh (fun oh1 hh1 => ?_) (by rfl) (by rfl)
    have g1 : B1.le (H'.set (L' + 2) oh1) := le_setN hle b3
    have g2 : CellIs (H'.set (L' + 2) oh1) (L' + 2) (some (.int (0 + 2 * (i : Int)) t)) := ⟨oh1, PH.set_self, hh1⟩
    have g3 : DL C (H'.set (L' + 2) oh1) d kvs := hD.setC eh dh
    generalize H'.set (L' + 2) oh1 = H3 at g1 g2 g3
    generalize hq : 0 + 2 * (i : Int) = here at g2
    walk_at "jx"
    refine j_if ?_
    walk_at "jx"
    refine j_comp (n := n) O' (cl := [(Str.ofString "owners", L' + 1), (Str.ofString "here", L' + 2)]) (ns := [Str.ofString "k"]) (by rfl) (by decide) rfl (by decide) (by decide) (by intro _; rfl) ?_
    walk_at "jx"
    refine j_range2 fun r2 _ _ _ hr2 => ?_
    refine j_iterRange O' (N := 5) PH.set_self (by decide) (by decide) fun it2 F2 hF2 hIt2 => ?_
    refine compAt_iter (n := n) (by decide) (fun _ _ _ => trivial) (fun base' L'' O'' => iter_range O'') hF2 hIt2
      (fun j ys Hc => H3.le Hc ∧ IntsAre ys (((List.range j).filter (fun e => badAt owners here (1 + e))).map (fun e => ((1 + e : Nat) : Int)))) ?_ (fun _ _ _ _ => trivial) ?_ ?_
    · exact ⟨PH.le_set hr2, .nil⟩
    · rintro base' L'' O'' j ys Hc v vs' hj hvl ⟨hle3, hys⟩ ⟨t4, rfl⟩
      obtain ⟨v1, rfl⟩ : ∃ v1, vs' = [v1] := by
        rcases vs' with _ | ⟨a1, _ | ⟨_, _⟩⟩
        · cases hvl
        · exact ⟨_, rfl⟩
        · cases hvl
      have e1 : 1 + 1 * (j : Int) = ((1 + j : Nat) : Int) := by omega
      rw [e1]
      obtain ⟨tk, hk⟩ := own_at hi (k := 1 + j) (by rw [h6]; omega)
      walk_at "jx"
      refine j_tests1 (j_mono (R := fun ok σ' => ok = badAt owners here (1 + j) ∧ σ' = ⟨[some (.int ((1 + j : Nat) : Int) t4)], Hc⟩) ?_ ?_)
      · have hko : oi[(((1 + j : Nat) : Int)).toNat]? = some (.int ((owners.getD (1 + j) 0 : Nat) : Int) tk) := by rw [Int.toNat_natCast]; exact hk
        have hlow : IL Hc ow oi := hl.le (PH.le_trans b1 (PH.le_trans g1 hle3))
        walk_at "jx"
        refine j_cell (by rfl) (g2.le hle3) ?_ (by rfl) (by rfl) (by decide)
        walk_at "jx"
        refine j_shrI (Int.natCast_nonneg _) fun _ => ?_
        walk_at "jx"
        refine j_truthyI ?_
        refine ⟨fun q1 => ?_, fun q1 => ⟨?_, rfl⟩⟩
        · walk_at "jx"
          refine j_cell (by rfl) ((b2.le g1).le hle3) ?_ (by rfl) (by rfl) (by decide)
          walk_at "jx"
          refine at_L hlow (Int.natCast_nonneg _) (lt_big (by omega)) hko ?_
          walk_at "jx"
          refine ⟨fun q2 => ?_, fun q2 => ⟨?_, rfl⟩⟩
          · walk_at "jx"
            refine j_cell (by rfl) (g2.le hle3) ?_ (by rfl) (by rfl) (by decide)
            walk_at "jx"
            refine j_cell (by rfl) ((b2.le g1).le hle3) ?_ (by rfl) (by rfl) (by decide)
            walk_at "jx"
            refine at_L hlow (Int.natCast_nonneg _) (lt_big (by omega)) hko ?_
            refine j_shrI (Int.natCast_nonneg _) fun _ => ?_
            walk_at "jx"
            refine j_truthyI ?_
            refine ⟨fun q3 => ?_, fun q3 => ⟨(badAt3 q1 q2 q3).symm, rfl⟩⟩
            walk_at "jx"
            exact ⟨(badAt3 q1 q2 q3).symm, rfl⟩
          · exact (badAt2 q1 q2).symm
        · exact (badAt1 q1).symm
      rintro ok _ ⟨rfl, rfl⟩
      refine ⟨fun hc => ?_, fun hc => ⟨rfl, hle3, ?_⟩⟩
      · walk_at "jx"
        refine ⟨rfl, hle3, ?_⟩
        rw [range_snoc, if_pos hc, List.map_append]
        exact hys.append (.cons _ _ .nil)
      · rw [range_snoc, if_neg (by rw [hc]; exact Bool.false_ne_true), List.append_nil]
        exact hys
    rintro D ys Hd kd hD' ⟨hle3, hys⟩
    walk_at "jx"
    refine j_newList (le_line (by simp)) fun en hen => ?_
    refine j_neLI O' (PL.new.il.le (PH.le_set hen)) PL.new.il hys .nil ?_
    have eb : (List.range 5).any (fun e => badAt owners here (1 + e)) = dueBad owners here := rfl
    rw [not_nil, eb]
    walk_at "jx"
    have hle4 : H3.le ((Hd.set D (listOf ys.toArray kd)).set en (listOf [].toArray 0)) := PH.le_trans hle3 (PH.le_trans (PH.le_set hD') (PH.le_set hen))
    generalize (Hd.set D (listOf ys.toArray kd)).set en (listOf [].toArray 0) = H4 at hle4
    have g4 : B1.le H4 := PH.le_trans g1 hle4
    replace g2 := g2.le hle4
    replace g3 := g3.le hle4
    refine ⟨fun hc => ?_, fun hc => ?_⟩
    · walk_at "jx"
      refine ⟨g4, ⟨_, g2⟩, kvs, _, _, _, _, _, g3, ?_, rfl⟩
      rw [dueTo_snoc hi', hq, hc, if_pos rfl, List.append_nil]
      exact hP
    walk_at "jx"
    refine j_newList (le_line (by simp)) fun l0 hl0 => ?_
    walk_at "jx"
    refine j_repL PL.new (by decide) (by decide) fun hg hhg => ?_
    walk_at "jx"
    have nhg : H4 hg = none := none_le (PH.le_set hl0) hhg
    refine j_range3 (by decide) (by rfl) fun r3 _ _ _ hr3 => ?_
    refine j_iterRange O' (N := 5) PH.set_self (by decide) (by decide) fun it3 F3 hF3 hIt3 => ?_
    refine forAt_iter (iter_range O') hF3 hIt3 (fun j σ' => H4.le σ'.H ∧ ∃ his ok ot ox on, IL σ'.H hg his ∧ IntsAre his (hungAt owners odd here j) ∧ σ'.vs = [some (.ref od), some (.ref d), some (.ref hg), ok, ot, ox, on]) ?_ (fun _ _ _ => trivial) ?_ ?_
    · refine ⟨PH.le_trans (PH.le_trans (PH.le_set hl0) (PH.le_set hhg)) (PH.le_set hr3), _, _, _, _, _, PL.new.il.le (PH.le_set hr3), ?_, rfl⟩
      exact .cons _ _ (.cons _ _ (.cons _ _ (.cons _ _ (.cons _ _ (.cons _ _ .nil)))))
    · rintro j ⟨vs', H5⟩ v hj ⟨hle5, his, ok, ot, ox, on, hih, hin, hvs⟩ ⟨t5, rfl⟩
      dsimp only at hvs hle5 hih; subst hvs
      have e5 : 5 + -1 * (j : Int) = ((5 - j : Nat) : Int) := by omega
      have hk5 : 5 - j < 6 := by omega
      rw [e5]
      have hstep := hungAt_succ (owners := owners) (odd := odd) (here := here) hj
      generalize 5 - j = k at hk5 hstep
      walk_at "jx"
      refine j_if ?_
      walk_at "jx"
      refine j_cell (by rfl) (g2.le hle5) ?_ (by rfl) (by rfl) (by decide)
      walk_at "jx"
      refine j_shrI (Int.natCast_nonneg _) fun _ => ?_
      walk_at "jx"
      refine j_truthyI ?_
      refine ⟨fun q1 => ?_, fun q1 => ?_⟩
      · have q1' : ¬ bitAt here k = 0 := fun e => by
          have q : (bitAt here k != 0) = true := q1
          rw [e] at q; cases q
        have hod5 : IL H5 od (odd.map Value.bool) := hod.le (PH.le_trans b1 (PH.le_trans g4 hle5))
        have hlow5 : IL H5 ow oi := hl.le (PH.le_trans b1 (PH.le_trans g4 hle5))
        iterate 2 walk_at "j"
        refine j_mono (R := fun v σ' => (∃ tt, v = .int (if odd.getD k false then -1 else 1) tt) ∧ σ' = ⟨[some (.ref od), some (.ref d), some (.ref hg), some (.int (k : Int) t5), ot, ox, on], H5⟩) ?_ ?_
        · walk_at "jx"
          refine at_L hod5 (Int.natCast_nonneg _) (lt_big (by omega)) (odd_at hb6 hk5) ?_
          walk_at "jx"
          cases odd.getD k false with
          | true => rw [if_pos rfl]; walk_at "jx"; exact ⟨⟨_, rfl⟩, rfl⟩
          | false => rw [if_neg (by decide)]; walk_at "jx"; exact ⟨⟨_, rfl⟩, rfl⟩
        rintro v _ ⟨⟨tt, rfl⟩, rfl⟩
        have ht1 : (if odd.getD k false = true then (-1 : Int) else 1).natAbs = 1 := by split <;> rfl
        generalize htu : (if odd.getD k false = true then (-1 : Int) else 1) = tu at ht1
        have htn : tu.natAbs < 2 ^ 30 := ht1 ▸ (by decide)
        obtain ⟨tv, hiv⟩ := int_at hin (k := k) (by rw [hungAt_length]; exact hk5)
        walk_at "jx"
        refine at_L hih (Int.natCast_nonneg _) (lt_big (by omega)) hiv ?_
        refine j_mulI (mul_left htn) fun tx => ?_
        have hxx : -12000 ≤ tu * (hungAt owners odd here j).getD k 0 := mul_low ht1 (getD_small (hungAt_small j) k)
        generalize hxe : tu * (hungAt owners odd here j).getD k 0 = xx at hxx
        walk_at "jx"
        refine j_while (fun kf σ' => σ'.H = H5 ∧ ∃ (nn : Nat) (tn : Tok), σ'.vs = [some (.ref od), some (.ref d), some (.ref hg), some (.int (k : Int) t5), some (.int tu tt), some (.int xx tx), some (.int (nn : Int) tn)] ∧ nn + kf = 201 ∧ 1 ≤ nn ∧ liftN xx kf nn = liftN xx 200 1) 200 ⟨rfl, 1, _, rfl, rfl, Nat.le_refl _, rfl⟩ ?_
        rintro kf ⟨vs', H6⟩ ⟨rfl, nn, tn, hvs, hnk, hn1, hln⟩
        dsimp only at hvs; subst hvs
        walk_at "jx"
        refine j_mulI (mul_left (by decide)) fun _ => ?_
        walk_at "jx"
        refine ⟨fun hc => ?_, fun hc => ?_⟩
        · walk_at "jx"
          refine j_iaddI fun tn2 => ?_
          walk_at "jx"
          rcases kf with _ | kf
          · exact absurd (of_decide_eq_true hc) (lift_end hxx hnk)
          · exact ⟨kf, Nat.lt_succ_self _, rfl, nn + 1, tn2, rfl, (Nat.succ_add_eq_add_succ nn kf).trans hnk, Nat.le_succ_of_le hn1, (lift_go hc).symm.trans hln⟩
        have hnv : nn = liftN xx 200 1 := (lift_stop hc).symm.trans hln
        obtain ⟨tk, hk⟩ := own_at hi (k := k) (h6 ▸ hk5)
        obtain ⟨tw, hiw⟩ := int_at hin (k := owners.getD k 0) (by rw [hungAt_length]; exact hlt k)
        have hnn : ((nn : Int) - 1) = ((nn - 1 : Nat) : Int) := (Int.natCast_sub hn1).symm
        have hn200 : nn ≤ 201 := hnk ▸ Nat.le_add_right _ _
        walk_at "jx"
        refine j_cell (by rfl) ((b2.le g4).le hle5) ?_ (by rfl) (by rfl) (by decide)
        walk_at "jx"
        refine at_L hlow5 (Int.natCast_nonneg _) (lt_big (by omega)) (by rw [Int.toNat_natCast]; exact hk) ?_
        refine j_itemL hih (Int.natCast_nonneg _) (lt_big (Nat.lt_trans (hlt k) (by decide))) hiw ?_
        walk_at "jx"
        refine j_mulI (mul_left (by decide)) fun _ => ?_
        walk_at "jx"
        rw [hnn]
        refine j_powI (Int.natCast_nonneg _) (pow_small hn200) fun _ => ?_
        refine j_divI (pow_ne _) (div_pow hn200) fun _ => ?_
        refine j_mulI (mul_left htn) fun _ => ?_
        refine j_iaddI fun _ => ?_
        refine j_setItemL hih (Int.natCast_nonneg _) (lt_big (Nat.lt_trans (hlt k) (by decide))) (by rw [hin.length, hungAt_length]; exact Int.ofNat_lt.mpr (hlt k)) fun H7 hl7 hs7 _ => ?_
        walk_at "jx"
        refine ⟨le_same hle5 nhg hs7, _, _, _, _, _, hl7, ?_, rfl⟩
        rw [hstep, dueStep, if_neg q1']
        dsimp only
        rw [htu, hxe, ← hnv]
        exact ints_set hin _ _ _
      · walk_at "jx"
        refine ⟨hle5, his, _, _, _, _, hih, ?_, rfl⟩
        rw [hstep, dueStep, if_pos (eq_of_beq (Bool.of_not_eq_false (show ¬ (bitAt here k == 0) = false from fun e => Bool.false_ne_true ((show (!(bitAt here k == 0)) = false from q1).symm.trans (by rw [e]; rfl)))))]
        exact hin
    · rintro ⟨vs', H5⟩ ⟨hle5, his, ok, ot, ox, on, hih, hin, hvs⟩
      dsimp only at hvs hle5 hih; subst hvs
      walk_at "jx"
      obtain ⟨tv, hiv⟩ := int_at hin (k := 0) (by rw [hungAt_length]; decide)
      refine at_L hih (by decide) (by decide) hiv ?_
      walk_at "jx"
      refine j_cell (by rfl) (g2.le hle5) ?_ (by rfl) (by rfl) (by decide)
      have g3' := g3.le hle5
      refine j_setD g3' (le_line (by rw [hP.length]; exact Nat.le_trans dueTo_len (by decide))) fun o6 ho6 => ?_
      rw [stored_new (hP.keys (hq ▸ dueTo_lt))] at ho6
      walk_at "jx"
      refine ⟨le_setN (PH.le_trans g4 hle5) b4, ⟨_, (g2.le hle5).set (g3'.ne_cell (g2.le hle5))⟩, _, _, _, _, _, _, ho6, ?_, rfl⟩
      rw [dueTo_snoc hi', hq, hc, if_neg Bool.false_ne_true]
      exact hP.snoc _ _ _
  · rintro ⟨vs', H'⟩ ⟨hle, _, kvs, o1, o2, o3, o4, o5, hD, hP, hvs⟩
    dsimp only at hvs hle hD; subst hvs
    walk_at "jx"
    exact h d kvs H' (PH.le_trans b1 hle) hD (dueTo_full owners odd ▸ hP)
end
end Mine

namespace Mine
/-- words over space and tab -/
def words : Nat → List (List Nat)
  | 0 => [[]]
  | n + 1 => [] :: (words n).flatMap fun w => [32 :: w, 9 :: w]
def signs (l : List Nat) : Bool := l.all fun c => c == 32 || c == 9
theorem words_mem : ∀ {n : Nat} {l : List Nat}, l.length ≤ n → signs l = true → l ∈ words n
  | 0, [], _, _ => List.mem_singleton.mpr rfl
  | _ + 1, [], _, _ => List.mem_cons_self
  | n + 1, c :: l, h, hs => by
    simp only [signs, List.all_cons, Bool.and_eq_true] at hs
    have ih := words_mem (n := n) (l := l) (Nat.le_of_succ_le_succ h) hs.2
    refine List.mem_cons_of_mem _ (List.mem_flatMap.mpr ⟨l, ih, ?_⟩)
    have hc : c = 32 ∨ c = 9 := by simpa using hs.1
    rcases hc with rfl | rfl
    · exact List.mem_cons_self
    · exact List.mem_cons_of_mem _ List.mem_cons_self
def LeadOk (x : Str) : Prop := x.cps.size ≤ 6 ∧ signs x.cps.toList = true
theorem LeadOk.mem {x : Str} (h : LeadOk x) : x.cps.toList ∈ words 6 := words_mem (by rw [Array.length_toList]; exact h.1) h.2
theorem LeadOk.ascii {x : Str} (h : LeadOk x) : x.cps.all (· < 128) = true := by
  rw [← Array.all_toList, List.all_eq_true]
  intro c hc
  have := List.all_eq_true.mp h.2 c hc
  have hc : c = 32 ∨ c = 9 := by simpa using this
  rcases hc with rfl | rfl <;> decide
def seps : List (List Nat) := [[32], [9], [32, 32], [32, 9]]
/-- the first six signs, as the machine cuts them -/
def cut6 (l : List Nat) : List Nat := (slicePicked ⟨l.toArray⟩ none (some (6, 0)) none).filterMap (l[·]?)
theorem cut6_ok : ((words 6).all fun w => seps.all fun s => let y := cut6 (w ++ s); (y == (w ++ s).take 6) && ((slicePicked ⟨(w ++ s).toArray⟩ none (some (6, 0)) none).length == min 6 (w ++ s).length)) = true := by decide +kernel
end Mine

namespace Mine
theorem seps_ok {s : List Nat} (h : s ∈ seps) : signs s = true ∧ s ≠ [] := by
  have : seps.all (fun s => signs s && !s.isEmpty) = true := by decide
  have := List.all_eq_true.mp this s h
  simp only [Bool.and_eq_true, Bool.not_eq_true', List.isEmpty_eq_false_iff] at this
  exact this
def cutAt (z : Str) (t : Tok) : Str := ⟨((slicePicked z none (some (6, t)) none).filterMap (z.cps[·]?)).toArray⟩
theorem cut_lead {x s : Str} (hx : LeadOk x) (hs : s.cps.toList ∈ seps) (t : Tok) : ((slicePicked (x ++ s) none (some (6, t)) none).length = (x ++ s).length → cutAt (x ++ s) t = x ++ s) ∧ LeadOk (cutAt (x ++ s) t) ∧ (cutAt (x ++ s) t).cps.size ≠ 0 := by
  have key := List.all_eq_true.mp (List.all_eq_true.mp cut6_ok _ hx.mem) _ hs
  have hz : x ++ s = ⟨(x.cps.toList ++ s.cps.toList).toArray⟩ := by
    obtain ⟨⟨x⟩⟩ := x
    obtain ⟨⟨s⟩⟩ := s
    show (⟨x.toArray ++ s.toArray⟩ : Str) = _
    rw [List.append_toArray]
  obtain ⟨h1, h2⟩ := Bool.and_eq_true_iff.mp key
  replace h1 : (cutAt (x ++ s) t).cps.toList = (x.cps.toList ++ s.cps.toList).take 6 := by have h1' := eq_of_beq h1; rw [hz, cutAt]; simp only [List.getElem?_toArray]; exact h1'
  replace h2 : (slicePicked (x ++ s) none (some (6, t)) none).length = min 6 (x.cps.toList ++ s.cps.toList).length := by have h2' := eq_of_beq h2; rw [hz]; exact h2'
  have hl : (cutAt (x ++ s) t).cps.size = min 6 (x.cps.toList ++ s.cps.toList).length := by rw [← Array.length_toList, h1, List.length_take]
  obtain ⟨s1, s2⟩ := seps_ok hs
  refine ⟨fun e => ?_, ⟨by rw [hl]; exact Nat.min_le_left _ _, ?_⟩, ?_⟩
  · rw [h2, hz] at e
    have e' : min 6 (x.cps.toList ++ s.cps.toList).length = (x.cps.toList ++ s.cps.toList).length := e.trans (by show (x.cps.toList ++ s.cps.toList).toArray.size = _; rw [List.size_toArray])
    rw [List.take_of_length_le (by omega)] at h1
    have : cutAt (x ++ s) t = ⟨(cutAt (x ++ s) t).cps.toList.toArray⟩ := rfl
    rw [this, h1, hz]
  · rw [h1]
    refine List.all_eq_true.mpr fun c hc => ?_
    rcases List.mem_append.mp (List.mem_of_mem_take hc) with hc | hc
    · exact List.all_eq_true.mp hx.2 c hc
    · exact List.all_eq_true.mp s1 c hc
  · rw [hl, List.length_append]
    have := List.length_pos_iff.mpr s2
    omega
theorem strs_at {vs : List Value} {xs : List Str} (h : StrsAre' vs xs) {k : Nat} (hk : k < xs.length) : ∃ t, vs[((k : Int)).toNat]? = some (.str (xs.getD k Str.empty) t) := by
  obtain ⟨l, rfl, rfl⟩ := h
  rw [List.length_map] at hk
  refine ⟨l[k].2, ?_⟩
  rw [Int.toNat_natCast, List.getD_eq_getElem?_getD]
  show (l.map _)[k]? = _
  rw [List.getElem?_map, List.getElem?_map, List.getElem?_eq_getElem hk]
  rfl
theorem StrsAre'.snoc {vs : List Value} {xs : List Str} (h : StrsAre' vs xs) (x : Str) (t : Tok) : StrsAre' (vs ++ [.str x t]) (xs ++ [x]) := by
  obtain ⟨l, rfl, rfl⟩ := h
  exact ⟨l ++ [(x, t)], by simp [strValues], by simp⟩
theorem seps_at {b : Nat} (h : b < 4) (t1 t2 t3 t4 : Tok) : ∃ y t, [Value.str (Str.ofString " ") t1, .str (Str.ofString "\t") t2, .str (Str.ofString "  ") t3, .str (Str.ofString " \t") t4][b]? = some (.str y t) ∧ y.cps.toList ∈ seps := by
  rcases b with _ | _ | _ | _ | b
  · exact ⟨_, _, rfl, by decide⟩
  · exact ⟨_, _, rfl, by decide⟩
  · exact ⟨_, _, rfl, by decide⟩
  · exact ⟨_, _, rfl, by decide⟩
  · exact absurd h (by omega)
end Mine
namespace Mine
/-- what is known of the rows' leads -/
def LeadsOk (xs : List Str) : Prop := (∀ x ∈ xs, LeadOk x) ∧ xs.getD 0 Str.empty = Str.empty ∧ ∀ k, 1 ≤ k → k < xs.length → (xs.getD k Str.empty).cps.size ≠ 0
theorem j_gen {C : Cx} {α : Type} {t : Sem α} {vs : List (Option Value)} {H₀ H₁ : PH} {R : α → Sg → Prop} (hle : H₀.le H₁) (h : ∀ H', H₀.le H' → J C t ⟨vs, H'⟩ R) : J C t ⟨vs, H₁⟩ R := h _ hle
theorem pos_ne (i : Nat) : ((i + 1 : Nat) : Int) ≠ 0 := by omega
theorem fmod_at (m : Int) {k : Nat} (hk : 0 < k) : ∃ a : Nat, a < k ∧ m.fmod (k : Int) = (a : Int) := by
  have h1 : m.fmod (k : Int) = m % (k : Int) := Int.fmod_eq_emod_of_nonneg m (Int.natCast_nonneg k)
  have h2 := Int.emod_nonneg m (b := (k : Int)) (by omega)
  have h3 := Int.emod_lt_of_pos m (b := (k : Int)) (by omega)
  exact ⟨(m % (k : Int)).toNat, by omega, by rw [h1]; omega⟩
theorem seq_at {i n : Nat} (h : i < n) : seqIndex? (i : Int) n = some i := by
  unfold seqIndex?
  simp only [Int.not_lt.mpr (Int.natCast_nonneg i), if_false]
  rw [if_pos (by simp; exact h), Int.toNat_natCast]
theorem getD_left {α : Type} {xs : List α} {y d : α} {k : Nat} (h : k < xs.length) : (xs ++ [y]).getD k d = xs.getD k d := by rw [List.getD_eq_getElem?_getD, List.getElem?_append_left h, List.getD_eq_getElem?_getD]
theorem getD_end {α : Type} {xs : List α} {y d : α} : (xs ++ [y]).getD xs.length d = y := by rw [List.getD_eq_getElem?_getD, List.getElem?_append_right (Nat.le_refl _), Nat.sub_self]; rfl
theorem LeadsOk.snoc {xs : List Str} (h : LeadsOk xs) {y : Str} (hy : LeadOk y ∧ y.cps.size ≠ 0) (hn : 0 < xs.length) : LeadsOk (xs ++ [y]) := by
  refine ⟨fun x hx => ?_, ?_, fun k h1 h2 => ?_⟩
  · rcases List.mem_append.mp hx with hx | hx
    · exact h.1 x hx
    · exact List.mem_singleton.mp hx ▸ hy.1
  · rw [getD_left hn]; exact h.2.1
  · rw [List.length_append] at h2
    rcases Nat.lt_or_ge k xs.length with h3 | h3
    · rw [getD_left h3]; exact h.2.2 k h1 h3
    · rw [show k = xs.length from Nat.le_antisymm (Nat.le_of_lt_succ h2) h3, getD_end]; exact hy.2
theorem items_len {vs : List Value} {xs : List Str} (h : StrsAre' vs xs) : vs.length = xs.length := by
  obtain ⟨l, rfl, rfl⟩ := h
  simp [strValues]
theorem cat_le {x y : Str} (hx : LeadOk x) (hy : y.cps.toList ∈ seps) : (x ++ y).length ≤ 1000 := by
  have h2 : seps.all (fun s => decide (s.length ≤ 2)) = true := by decide
  have h3 := of_decide_eq_true (List.all_eq_true.mp h2 _ hy)
  have e : (x ++ y).length = x.cps.size + y.cps.size := Array.size_append
  rw [Array.length_toList] at h3
  have := hx.1
  omega
section
variable {C : Cx} {σ : Sg} {n : Nat}
/-- a list that stood before the frame -/
def BL (b : Heap) (a : Addr) (items : List Value) : Prop := b.IsList a items.toArray
theorem BL.stays {b b' : Heap} {a : Addr} {items : List Value} (h : BL b a items) (k : ∀ x o, b.get? x = some o → b'.get? x = some o) : BL b' a items := let ⟨o, e, r⟩ := h; ⟨o, k _ _ e, r⟩
theorem subs_B {a : Addr} {items : List Value} (hl : BL C.base a items) : Subs C (.ref a) σ := fun s hs => ⟨"list", _, list_getitem_lookup, (hl.stays hs.fr.keep).typeIs⟩
theorem j_sliceB {vs : List (Option Value)} {H : PH} {a sl : Addr} {items : List Value} {vl vu vt : Value} {lo hi st : Option Int} {R : Value → Sg → Prop} (hl : BL C.base a items) (hs : H sl = some { cls := .type "slice", data := .fields #[vl, vu, vt] })
    (pl : IsPart vl lo) (pu : IsPart vu hi) (ps : IsPart vt st) (h0 : st ≠ some 0) (hz : items.length ≤ sizeLine) (h : ∀ b, H b = none → R (.ref b) ⟨vs, H.set b (listOf (slicePick items.toArray lo hi st) 0)⟩) : J C (getItem (.ref a) (.ref sl)) ⟨vs, H⟩ R :=
  j_mk fun s Q hs' q => wpAny_getItem_list_slice (hl.stays hs'.fr.keep) ⟨_, hs'.get hs, rfl, rfl⟩ pl pu ps h0 (q _ _ _ s.toks (hs'.push (listOf (slicePick items.toArray lo hi st) 0) rfl) (Fram.push hs' _) (h _ hs'.newAt)) (by rw [List.size_toArray]; exact hz)
theorem f_leads {sr : Addr} {si : List Value} {ns : List Int} {vs : List (Option Value)} {H : PH} {R : Value → Sg → Prop} (O : Ok C (n + 1)) (hl : BL C.base sr si) (hi : IntsAre si ns) (hz : si.length ≤ sizeLine)
    (h : ∀ a items xs H', H.le H' → PL H' a items → StrsAre' items xs → xs.length = 6 → LeadsOk xs → R (.ref a) ⟨vs, H'⟩) : J C (PySem.call (.ref 206) [.ref sr]) ⟨vs, H⟩ R := by
  refine j_call (rest := [Str.ofString "leads", Str.ofString "k", Str.ofString "number"]) [Str.ofString "script", Str.ofString "leads", Str.ofString "k", Str.ofString "number"] [some (.ref sr), none, none, none] O (by k_is) (by k_is) (by rfl) (by rfl) (locs rfl) (by rfl) (by rfl) (by decide) (by decide) rfl rfl rfl fun A' base' L' st' O' => ?_
  walk_at "jx"
  refine j_newList (le_line (by simp)) fun lr hlr => ?_
  walk_at "jx"
  refine j_range2 fun r _ _ _ hr => ?_
  refine j_iterRange O' (N := 5) PH.set_self (by decide) (by decide) fun it F hF hIt => ?_
  refine forAt_iter (iter_range O') hF hIt (fun i σ' => H.le σ'.H ∧ ∃ items xs ok on, PL σ'.H lr items ∧ StrsAre' items xs ∧ xs.length = i + 1 ∧ LeadsOk xs ∧ σ'.vs = [some (.ref sr), some (.ref lr), ok, on]) ?_ (fun _ _ _ => trivial) ?_ ?_
  · refine ⟨PH.le_trans (PH.le_set hlr) (PH.le_set hr), _, [Str.ofString ""], _, _, PL.new.le (PH.le_set hr), ⟨[(Str.ofString "", _)], rfl, rfl⟩, rfl, ⟨fun x hx => ?_, by decide, fun k h1 h2 => ?_⟩, rfl⟩
    · rw [List.mem_singleton] at hx
      subst hx
      exact ⟨by decide, by decide⟩
    · exact absurd (Nat.lt_of_le_of_lt h1 h2) (Nat.lt_irrefl _)
  · rintro i ⟨vs', H'⟩ v hi' ⟨hle, items, xs, ok, on, hpl, hst, hln, hok, hvs⟩ ⟨t, rfl⟩
    dsimp only at hvs hle hpl; subst hvs
    have e1 : 1 + 1 * (i : Int) = ((i + 1 : Nat) : Int) := by omega
    have e2 : ((i + 1 : Nat) : Int) - 1 = (i : Int) := by omega
    rw [e1]
    walk_at "jx"
    refine j_newTuple (le_line (by simp)) fun tp htp => ?_
    walk_at "jx"
    rw [e2]
    obtain ⟨tq, hq⟩ := int_at (ns := [8, 3, 3, 19, 8]) (.cons _ _ (.cons _ _ (.cons _ _ (.cons _ _ (.cons _ _ .nil))))) hi'
    refine at_T TL.new (Int.le_trans (by decide) (Int.natCast_nonneg _)) (lt_big (Nat.lt_trans hi' (by decide))) (seq_at hi') (by rw [Int.toNat_natCast] at hq; exact hq) ?_
    walk_at "jx"
    refine j_slice ?_
    walk_at "jx"
    rw [e2]
    walk_at "jx"
    intro sl hsl
    refine ⟨subs_B (hl.stays st'), j_sliceB (hl.stays st') PH.set_self (.int _ _) (.int _ _) (.int _ _) (by decide) hz fun sm hsm => ?_⟩
    walk_at "jx"
    have hsu := hi.pick (some (i : Int)) (some 60) (some 5)
    refine j_sumL O' (vs := (slicePick si.toArray (some (i : Int)) (some 60) (some 5)).toList) (PL.new (items := (slicePick si.toArray (some (i : Int)) (some 60) (some 5)).toList)).il hsu fun _ => ?_
    refine j_addI fun _ => ?_
    generalize [8, 3, 3, 19, 8].getD i 0 + (pickNums ns (some (i : Int)) (some 60) (some 5)).sum = q
    refine j_gen (H₀ := H') (PH.le_trans (PH.le_trans (PH.le_set htp) (PH.le_set hsl)) (PH.le_set hsm)) fun H5 h5 => ?_
    walk_at "j"
    refine j_modI (by decide) fun tm => ?_
    generalize q.fmod 1000000 = m
    have hpl5 := hpl.le h5
    walk_at "jx"
    refine j_gmAppend hpl5 ?_
    walk_at "jx"
    refine j_modI (pos_ne i) fun _ => ?_
    obtain ⟨a, ha, ea⟩ := fmod_at m (Nat.succ_pos i)
    rw [ea]
    obtain ⟨tx, hx⟩ := strs_at hst (k := a) (by rw [hln]; exact ha)
    refine at_L hpl5.il (Int.natCast_nonneg _) (lt_big (Nat.lt_trans ha (Nat.lt_trans (Nat.succ_lt_succ hi') (by decide)))) hx ?_
    walk_at "jx"
    refine j_newTuple (le_line (by simp)) fun tq htq => ?_
    walk_at "jx"
    refine j_divI (pos_ne i) (div_small (by omega)) fun _ => ?_
    walk_at "jx"
    refine j_modI (by decide) fun _ => ?_
    obtain ⟨b, hb, eb⟩ := fmod_at (m.fdiv ((i + 1 : Nat) : Int)) (k := 4) (by decide)
    rw [show (4 : Int) = ((4 : Nat) : Int) from rfl, eb]
    obtain ⟨y, ty, hy, hys⟩ := seps_at hb _ _ _ _
    refine at_T TL.new (Int.le_trans (by decide) (Int.natCast_nonneg _)) (lt_big (Nat.lt_trans hb (by decide))) (seq_at hb) hy ?_
    have hxo : LeadOk (xs.getD a Str.empty) := hok.1 _ (by rw [List.getD_eq_getElem?_getD, List.getElem?_eq_getElem (by rw [hln]; exact ha)]; exact List.getElem_mem _)
    refine j_addS (le_line (cat_le hxo hys)) fun tz => ?_
    walk_at "jx"
    refine j_slice ?_
    walk_at "jx"
    intro sl2 hsl2
    have hc6 := cut_lead hxo hys
    refine ⟨subs_S, j_sliceS (l := none) (u := some (6, _)) (st := none) PH.set_self rfl (cutAt (xs.getD a Str.empty ++ y) _) rfl (hc6 _).1 (le_line (Nat.le_trans (hc6 _).2.1.1 (by decide))) fun tc => ?_⟩
    walk_at "jx"
    refine j_gen (H₀ := H5) (PH.le_trans (PH.le_set htq) (PH.le_set hsl2)) fun H6 h6 => ?_
    refine j_append (hpl5.le h6) (le_line (by rw [items_len hst, hln]; omega)) fun k => ?_
    walk_at "jx"
    exact ⟨le_setN (PH.le_trans hle (PH.le_trans h5 h6)) hlr, _, _, _, _, PL.new, hst.snoc _ tc, by rw [List.length_append, hln]; rfl, hok.snoc (hc6 _).2 (hln ▸ Nat.succ_pos i), rfl⟩
  · rintro ⟨vs', H'⟩ ⟨hle, items, xs, ok, on, hpl, hst, hln, hok, hvs⟩
    dsimp only at hvs hle hpl; subst hvs
    walk_at "jx"
    exact h lr items xs H' hle hpl hst hln hok
end
end Mine

namespace Mine
/-! a row's blanks and tabs, as the class counts them: (count, b, n, nt) -/
def wsAdd (count : List Int) (b : Nat) : List Int := let c := if count.length ≤ b then count ++ List.replicate (b - count.length + 1) 0 else count; c.set b (c.getD b 0 + 1)
def wsStep (s : List Int × Nat × Nat × Nat) (c : Nat) : List Int × Nat × Nat × Nat := if c = 32 then (s.1, s.2.1 + 1, s.2.2.1 + 1, s.2.2.2) else (wsAdd s.1 s.2.1, 0, s.2.2.1 + 1, s.2.2.2 + 1)
def wsOf (w : List Nat) : List Int × Nat × Nat × Nat := w.foldl wsStep ([], 0, 0, 0)
theorem wsOf_snoc (l : List Nat) (c : Nat) : wsOf (l ++ [c]) = wsStep (wsOf l) c := by
  unfold wsOf
  rw [List.foldl_append]
  rfl
theorem wsOf_small : ((words 6).all fun w => decide ((wsOf w).1.length ≤ 6) && decide ((wsOf w).2.1 ≤ 6) && decide ((wsOf w).2.2.1 ≤ 6) && decide ((wsOf w).2.2.2 ≤ 6)) = true := by decide +kernel
theorem wsOf_le {x : Str} (hx : LeadOk x) (i : Nat) : (wsOf (x.cps.toList.take i)).1.length ≤ 6 ∧ (wsOf (x.cps.toList.take i)).2.1 ≤ 6 := by
  have hm : x.cps.toList.take i ∈ words 6 := words_mem (Nat.le_trans (List.length_take_le' _ _) (by rw [Array.length_toList]; exact hx.1)) (List.all_eq_true.mpr fun c hc => List.all_eq_true.mp hx.2 c (List.mem_of_mem_take hc))
  have := List.all_eq_true.mp wsOf_small _ hm
  simp only [Bool.and_eq_true, decide_eq_true_eq] at this
  exact ⟨this.1.1.1, this.1.1.2⟩
theorem sign_at {x : Str} (hx : LeadOk x) {i c : Nat} (h : x.cps[i]? = some c) : c = 32 ∨ c = 9 := by
  have := List.all_eq_true.mp hx.2 c (by rw [Array.mem_toList_iff]; exact Array.mem_of_getElem? h)
  simpa using this
theorem ints_rep (v : Int) (t : Tok) : ∀ k, IntsAre (List.replicate k (.int v t)) (List.replicate k v)
  | 0 => .nil
  | k + 1 => .cons _ _ (ints_rep v t k)
theorem wsAdd_lt (cnt : List Int) (b : Nat) : b < (if cnt.length ≤ b then cnt ++ List.replicate (b - cnt.length + 1) 0 else cnt).length := by
  split
  · rw [List.length_append, List.length_replicate]; omega
  · omega
/-- an object of the class, made for the word -/
def RowAt (H : PH) (x : Addr) (w : List Nat) : Prop := ∃ dx tn tc t t1 t2 cv u, Inst H x dx [(Str.ofString "is_simple", .bool (decide (((wsOf w).1.length : Int) ≤ 1))), (Str.ofString "norm", .ref tn), (Str.ofString "nt", .int ((wsOf w).2.2.2 : Int) t1), (Str.ofString "n", .int ((wsOf w).2.2.1 : Int) t2), (Str.ofString "raw", u)] ∧
  TL H tn [.ref tc, .int ((wsOf w).2.1 : Int) t] ∧ TL H tc cv ∧ IntsAre cv (wsOf w).1
section
variable {C : Cx} {σ : Sg} {n : Nat}
theorem f_ws {x : Str} {t : Tok} {vs : List (Option Value)} {H : PH} {R : Value → Sg → Prop} (O : Ok C (n + 2)) (hx : LeadOk x) (h : ∀ a H', H.le H' → RowAt H' a x.cps.toList → R (.ref a) ⟨vs, H'⟩) : J C (PySem.call (.ref 83) [.str x t]) ⟨vs, H⟩ R := by
  refine j_make (rest := [Str.ofString "S", Str.ofString "T", Str.ofString "count", Str.ofString "b", Str.ofString "n", Str.ofString "nt", Str.ofString "ch"]) [Str.ofString "self", Str.ofString "ws", Str.ofString "S", Str.ofString "T", Str.ofString "count", Str.ofString "b", Str.ofString "n", Str.ofString "nt", Str.ofString "ch"]
    O (by k_is) (by k_is) (by k_is) (by k_is) (by k_is) (fun _ => by rfl) (by rfl) (fun _ => locs rfl) (by rfl) (by decide) (by decide) rfl rfl rfl fun a da A' base' L' na nd nad O' => ?_
  change J _ _ ⟨[some (.ref a), some (.str x t), none, none, none, none, none, none, none], _⟩ _
  have I0 : Inst ((H.set da (dictOf [] 0)).set a (instObj 83 da)) a da [] := ⟨PH.set_self, [], 0, by rw [PH.set_ne (Ne.symm nad)]; exact PH.set_self, Nat.le_refl _, fun _ => rfl⟩
  walk_at "jx"
  refine j_setInst O' I0 (by k_is) (by k_is) (by k_is) (by k_is) (Nat.le_of_ble_eq_true rfl) fun o1 I1 => ?_
  walk_at "jx"
  have hle1 : H.le (((H.set da (dictOf [] 0)).set a (instObj 83 da)).set da o1) := le_setN (le_setN (PH.le_set nd) na) nd
  generalize ((H.set da (dictOf [] 0)).set a (instObj 83 da)).set da o1 = H1 at I1 hle1
  refine j_setTupS (names := [Str.ofString "S", Str.ofString "T"]) (by rfl) ?_ (by rfl)
  walk_at "jx"
  refine j_clsVal O' (by k_is) (by k_is) (by k_is) (by rfl) ?_
  walk_at "jx"
  refine j_clsVal O' (by k_is) (by k_is) (by k_is) (by rfl) ?_
  walk_at "jx"
  refine j_newTuple (le_line (by simp)) fun tp htp => ?_
  refine j_unpackItems O' TL.new.ti (by rfl) ?_
  show J _ (assignInOrder [bindName _ (Str.ofString "T"), bindName _ (Str.ofString "S")] [_, _]) _ _
  walk_at "jx"
  refine j_newList (le_line (by simp)) fun l0 hl0 => ?_
  walk_at "jx"
  have hle2 : H1.le ((H1.set tp (tupOf _ 0)).set l0 (listOf #[] 0)) := PH.le_trans (PH.le_set htp) (PH.le_set hl0)
  refine j_getOwn O' (I1.le hle2) (by k_is) (by k_is) (by k_is) (by k_is) (by rfl) (by rfl) ?_
  refine j_iterStr hx.ascii fun it F hF hIt => ?_
  refine forAt_iter (iter_str O') hF hIt (fun i σ' => H1.le σ'.H ∧ ∃ c items tb tn tt och, σ'.vs = [some (.ref a), some (.str x t), some (.str (Str.ofString " ") 209), some (.str (Str.ofString "\t") 210), some (.ref c), some (.int ((wsOf (x.cps.toList.take i)).2.1 : Int) tb), some (.int ((wsOf (x.cps.toList.take i)).2.2.1 : Int) tn), some (.int ((wsOf (x.cps.toList.take i)).2.2.2 : Int) tt), och] ∧ H1 c = none ∧ IL σ'.H c items ∧ IntsAre items (wsOf (x.cps.toList.take i)).1) ?_ (fun _ _ _ => trivial) ?_ ?_
  · exact ⟨hle2, _, _, _, _, _, _, rfl, none_le (PH.le_set htp) hl0, PL.new.il, .nil⟩
  · rintro i ⟨vs', H'⟩ v hlt ⟨hle, c, items, tb, tn, tt, och, hvs, hcn, hpl, hint⟩ ⟨ch, u, hch, rfl⟩
    dsimp only at hvs hle hpl; subst hvs
    obtain ⟨b1, b2⟩ := wsOf_le hx i
    have hsn : wsOf (x.cps.toList.take (i + 1)) = wsStep (wsOf (x.cps.toList.take i)) ch := by rw [take_snoc (l := x.cps.toList) (by simpa using hch), wsOf_snoc]
    have hc2 := sign_at hx hch
    rw [hsn]
    generalize wsOf (x.cps.toList.take i) = st at hint b1 b2
    obtain ⟨cnt, b, m, nt⟩ := st
    dsimp only at hint b1 b2 ⊢
    have e32 : (Str.ofString " ").cps.toList = [32] := by decide
    have e9 : (Str.ofString "\t").cps.toList = [9] := by decide
    walk_at "js"
    rw [e32]
    refine ⟨fun hc => ?_, fun hc => ?_⟩
    · walk_at "js"
      rw [wsStep, if_pos (by simpa using hc)]
      exact ⟨hle, c, items, _, _, _, _, rfl, hcn, hpl, hint⟩
    · have hne : ¬ ch = 32 := by simpa using hc
      have h9 : ch = 9 := hc2.resolve_left hne
      subst h9
      walk_at "js"
      rw [e9]
      refine ⟨fun _ => ?_, fun hc => absurd hc (by decide)⟩
      walk_at "jx"
      refine j_mono (R := fun fl σ' => fl = .next ∧ H1.le σ'.H ∧ ∃ c' items' tb2 tb3, H1 c' = none ∧ IL σ'.H c' items' ∧ IntsAre items' (if cnt.length ≤ b then cnt ++ List.replicate (b - cnt.length + 1) 0 else cnt) ∧
        σ'.vs = [some (.ref a), some (.str x t), some (.str (Str.ofString " ") 209), some (.str (Str.ofString "\t") 210), some (.ref c'), some (.int (b : Int) tb), some (.int ((m : Int) + 1) tb2), some (.int ((nt : Int) + 1) tb3), some (.str ⟨#[9]⟩ u)]) ?_ ?_
      · walk_at "js"
        refine j_lenL hpl (by rw [hint.length]; omega) fun _ => ?_
        walk_at "js"
        rw [hint.length]
        refine ⟨fun hc => ?_, fun hc => ?_⟩
        · have hbl : cnt.length ≤ b := Int.ofNat_le.mp (of_decide_eq_true hc)
          rw [if_pos hbl]
          walk_at "js"
          refine j_newList (le_line (by simp)) fun l1 hl1 => ?_
          walk_at "js"
          refine j_lenL (hpl.le (PH.le_set hl1)) (by rw [hint.length]; omega) fun _ => ?_
          walk_at "js"
          rw [hint.length, show (b : Int) - (cnt.length : Nat) + 1 = ((b - cnt.length + 1 : Nat) : Int) from by omega]
          refine j_repL PL.new (Int.natCast_nonneg _) (by omega) fun l2 hl2 => ?_
          rw [Int.toNat_natCast]
          refine j_addLI ((hpl.le (PH.le_set hl1)).le (PH.le_set hl2)) PL.new.il (le_line (by rw [hint.length, List.length_replicate]; omega)) fun l3 hl3 => ?_
          walk_at "js"
          exact ⟨rfl, PH.le_trans hle (PH.le_trans (PH.le_set hl1) (PH.le_trans (PH.le_set hl2) (PH.le_set hl3))), _, _, _, _, none_le (PH.le_trans hle (PH.le_trans (PH.le_set hl1) (PH.le_set hl2))) hl3, PL.new.il, hint.append (ints_rep _ _ _), rfl⟩
        · have hbl : ¬ cnt.length ≤ b := fun q => of_decide_eq_false hc (Int.ofNat_le.mpr q)
          rw [if_neg hbl]
          walk_at "js"
          exact ⟨rfl, hle, _, _, _, _, hcn, hpl, hint, rfl⟩
      rintro fl ⟨vs', H''⟩ ⟨rfl, hle3, c', items', tb2, tb3, hcn', hpl', hint', hvs⟩
      dsimp only at hvs hle3 hpl'; subst hvs
      have hbl := wsAdd_lt cnt b
      rw [wsStep, if_neg (by decide)]
      show J _ _ _ fun _ σ₁ => _
      dsimp only [wsAdd]
      generalize (if cnt.length ≤ b then cnt ++ List.replicate (b - cnt.length + 1) 0 else cnt) = cn at hint' hbl ⊢
      obtain ⟨tv, hv⟩ := int_at hint' hbl
      walk_at "jx"
      refine at_L hpl' (Int.natCast_nonneg _) (lt_big (by omega)) hv ?_
      walk_at "jx"
      refine j_setItemL hpl' (Int.natCast_nonneg _) (lt_big (by omega)) (by rw [hint'.length]; exact Int.ofNat_lt.mpr hbl) fun H7 hl7 hs7 _ => ?_
      walk_at "jx"
      exact ⟨le_same hle3 hcn' hs7, _, _, _, _, _, _, rfl, hcn', hl7, ints_set hint' _ _ _⟩
  · rintro ⟨vs', H'⟩ ⟨hle, c, items, tb, tn, tt, och, hvs, hcn, hpl, hint⟩
    dsimp only at hvs hle hpl; subst hvs
    have b1 := (wsOf_le hx x.cps.size).1
    rw [List.take_of_length_le (by simp)] at hint b1 ⊢
    have g2 := PH.le_trans hle1 hle
    replace I1 := I1.le hle
    generalize hst : wsOf x.cps.toList = st at hint b1
    walk_at "jx"
    refine j_setInst O' I1 (by k_is) (by k_is) (by k_is) (by k_is) (Nat.le_of_ble_eq_true rfl) fun o2 I2 => ?_
    replace g2 := le_setN (o := o2) g2 nd
    replace hpl := hpl.setI (o := o2) I1
    generalize H'.set da o2 = H2 at I2 g2 hpl
    walk_at "jx"
    refine j_setInst O' I2 (by k_is) (by k_is) (by k_is) (by k_is) (Nat.le_of_ble_eq_true rfl) fun o3 I3 => ?_
    replace g2 := le_setN (o := o3) g2 nd
    replace hpl := hpl.setI (o := o3) I2
    generalize H2.set da o3 = H3 at I3 g2 hpl
    walk_at "jx"
    refine j_tupleOf hpl (le_line (by rw [hint.length]; omega)) fun tc htc => ?_
    walk_at "jx"
    refine j_newTuple (le_line (by simp)) fun tn' htn => ?_
    walk_at "jx"
    have l4 := PH.le_trans (PH.le_set (o := tupOf items 0) htc) (PH.le_set (o := tupOf [.ref tc, .int (st.2.1 : Int) tb] 0) htn)
    refine j_setInst O' (I3.le l4) (by k_is) (by k_is) (by k_is) (by k_is) (Nat.le_of_ble_eq_true rfl) fun o4 I4 => ?_
    replace g2 := le_setN (o := o4) (PH.le_trans g2 l4) nd
    have c1 := (TL.new (H := H3) (a := tc) (items := items) (n := 0)).le (PH.le_set (o := tupOf [.ref tc, .int (st.2.1 : Int) tb] 0) htn) |>.setI (o := o4) (I3.le l4)
    have c2 := (TL.new (H := H3.set tc (tupOf items 0)) (a := tn') (items := [.ref tc, .int (st.2.1 : Int) tb]) (n := 0)).setI (o := o4) (I3.le l4)
    replace hpl := (hpl.le l4).setI (o := o4) (I3.le l4)
    generalize PH.set _ da o4 = H4 at I4 g2 hpl c1 c2
    walk_at "jx"
    refine j_lenL hpl (by rw [hint.length]; omega) fun _ => ?_
    walk_at "jx"
    rw [hint.length]
    refine j_setInst O' I4 (by k_is) (by k_is) (by k_is) (by k_is) (Nat.le_of_ble_eq_true rfl) fun o5 I5 => ?_
    walk_at "jx"
    refine ⟨rfl, h a _ (le_setN g2 nd) ⟨da, tn', tc, tb, tt, tn, items, .str x t, ?_, ?_, c1.setI I4, ?_⟩⟩
    · rw [hst]; exact I5
    · rw [hst]; exact c2.setI I4
    · rw [hst]; exact hint
end
end Mine

namespace Mine
def longest (w : List Nat) : Int := max (((wsOf w).1.length : Int) - 1) ((wsOf w).2.1 : Int)
def ilGo (cnt : List Int) (ts : Nat) (k : Nat) : Int := (List.range k).foldl (fun il (j : Nat) => il + (((ts + j) / ts : Nat) : Int) * cnt.getD (ts + j) 0) 0
def indent (w : List Nat) (ts : Nat) : Int := ((wsOf w).2.1 : Int) + (ts : Int) * (ilGo (wsOf w).1 ts ((wsOf w).1.length - ts) + ((wsOf w).2.2.2 : Int))
def lessB (v w : List Nat) : Bool :=
  if (wsOf w).2.2.1 ≤ (wsOf v).2.2.1 then false
  else if (wsOf v).1.length ≤ 1 ∧ (wsOf w).1.length ≤ 1 then decide ((wsOf v).2.2.2 ≤ (wsOf w).2.2.2)
  else (List.range (max (longest v) (longest w)).toNat).all fun j => decide (indent v (2 + j) < indent w (2 + j))
theorem ilGo_snoc (cnt : List Int) (ts : Nat) (k : Nat) : ilGo cnt ts (k + 1) = ilGo cnt ts k + (((ts + k) / ts : Nat) : Int) * cnt.getD (ts + k) 0 := by
  unfold ilGo
  rw [List.range_succ, List.foldl_append]
  rfl
theorem nat_fdiv (a b : Nat) : ((a : Nat) : Int).fdiv (b : Nat) = ((a / b : Nat) : Int) := by rw [Int.fdiv_eq_ediv_of_nonneg _ (Int.natCast_nonneg b)]; rfl
theorem range_one (a b : Nat) : Builtin.Range.rangeSize (a : Int) (b : Nat) 1 = ((b - a : Nat) : Int) := by
  unfold Builtin.Range.rangeSize
  rw [if_pos (by decide)]
  split <;> omega
theorem fits_long {i : Int} (h : -1000 ≤ i) (h2 : i ≤ 1000) : Builtin.Range.rangeFitsLong i = true := by
  unfold Builtin.Range.rangeFitsLong
  rw [Bool.and_eq_true, decide_eq_true_eq, decide_eq_true_eq]
  omega
theorem range_small {a b : Nat} (ha : a ≤ 100) (hb : b ≤ 100) : Builtin.Range.small (a : Int) (b : Nat) 1 = true := by
  unfold Builtin.Range.small
  rw [range_one, if_pos (by decide), fits_long (by omega) (by omega), fits_long (by omega) (by omega), fits_long (by decide) (by decide), fits_long (by omega) (by omega), fits_long (by omega) (by omega), Bool.or_true]
  rfl
theorem wsOf_small' {w : List Nat} (h : w ∈ words 6) : (wsOf w).1.length ≤ 6 ∧ (wsOf w).2.1 ≤ 6 := by
  have := List.all_eq_true.mp wsOf_small _ h
  simp only [Bool.and_eq_true, decide_eq_true_eq] at this
  exact ⟨this.1.1.1, this.1.1.2⟩
theorem nat_le (a b : Nat) : decide ((a : Int) ≤ (b : Nat)) = decide (a ≤ b) := decide_eq_decide.mpr Int.ofNat_le
theorem longest_nat {v w : List Nat} (hv : v ∈ words 6) (hw : w ∈ words 6) : ∃ L : Nat, max (longest v) (longest w) = (L : Int) ∧ L ≤ 6 := by
  have a := wsOf_small' hv
  have b := wsOf_small' hw
  refine ⟨(max (longest v) (longest w)).toNat, ?_, ?_⟩ <;> unfold longest <;> omega
theorem RowAt.le {H H' : PH} {a : Addr} {w : List Nat} (h : RowAt H a w) (l : H.le H') : RowAt H' a w :=
  let ⟨dx, tn, tc, t, t1, t2, cv, u, I, hn, hc, hi⟩ := h
  ⟨dx, tn, tc, t, t1, t2, cv, u, I.le l, hn.le l, hc.le l, hi⟩
section
variable {C : Cx} {σ : Sg} {n : Nat}
theorem f_longest {a : Addr} {w : List Nat} {R : Value → Sg → Prop} (O : Ok C (n + 1)) (hr : RowAt σ.H a w) (hw : w ∈ words 6) (h : ∀ t, R (.int (longest w) t) σ) : J C (PySem.call (.ref 45) [.ref a]) σ R := by
  refine j_call (rest := [Str.ofString "count", Str.ofString "trailing"]) [Str.ofString "self", Str.ofString "count", Str.ofString "trailing"] [some (.ref a), none, none] O (by k_is) (by k_is) (by rfl) (by rfl) (locs rfl) (by rfl) (by rfl) (by decide) (by decide) rfl rfl rfl fun A' base' L' st' O' => ?_
  obtain ⟨dx, tn, tc, t, t1, t2, cv, u, I, hn, hc, hi⟩ := hr
  walk_at "jx"
  refine j_getOwn O' I (by k_is) (by k_is) (by k_is) (by k_is) (by rfl) (by rfl) ?_
  refine j_unpack2 O' hn.ti ?_
  walk_at "jx"
  have := (wsOf_small' hw).1
  refine j_lenT hc (by rw [hi.length]; omega) fun _ => ?_
  walk_at "jx"
  refine j_max2 O' fun _ => ?_
  walk_at "jx"
  rw [hi.length]
  exact h _
theorem f_indent {a : Addr} {w : List Nat} {ts : Nat} {tt : Tok} {vs : List (Option Value)} {H : PH} {R : Value → Sg → Prop} (O : Ok C (n + 1)) (hr : RowAt H a w) (hw : w ∈ words 6) (h2 : 1 ≤ ts) (h9 : ts ≤ 100) (h : ∀ t H', H.le H' → R (.int (indent w ts) t) ⟨vs, H'⟩) : J C (PySem.call (.ref 52) [.ref a, .int (ts : Int) tt]) ⟨vs, H⟩ R := by
  refine j_call (rest := [Str.ofString "count", Str.ofString "trailing", Str.ofString "il", Str.ofString "i"]) [Str.ofString "self", Str.ofString "tabsize", Str.ofString "count", Str.ofString "trailing", Str.ofString "il", Str.ofString "i"] [some (.ref a), some (.int (ts : Int) tt), none, none, none, none] O (by k_is) (by k_is) (by rfl) (by rfl) (locs rfl) (by rfl) (by rfl) (by decide) (by decide) rfl rfl rfl fun A' base' L' st' O' => ?_
  obtain ⟨dx, tn, tc, t, t1, t2, cv, u, I, hn, hc, hi⟩ := hr
  walk_at "jx"
  refine j_getOwn O' I (by k_is) (by k_is) (by k_is) (by k_is) (by rfl) (by rfl) ?_
  refine j_unpack2 O' hn.ti ?_
  walk_at "jx"
  have hs := (wsOf_small' hw).1
  refine j_lenT hc (by rw [hi.length]; omega) fun _ => ?_
  walk_at "jx"
  rw [hi.length]
  refine j_range2 fun r _ _ _ hr => ?_
  have hN : Builtin.Range.rangeSize (ts : Int) ((wsOf w).1.length : Nat) 1 = (((wsOf w).1.length - ts : Nat) : Int) := range_one _ _
  refine j_iterRange O' (N := (wsOf w).1.length - ts) PH.set_self (range_small h9 (Nat.le_trans hs (by decide))) hN fun it F hF hIt => ?_
  refine forAt_iter (iter_range O') hF hIt (fun i σ' => H.le σ'.H ∧ ∃ ti oi, σ'.vs = [some (.ref a), some (.int (ts : Int) tt), some (.ref tc), some (.int ((wsOf w).2.1 : Int) t), some (.int (ilGo (wsOf w).1 ts i) ti), oi]) ?_ (fun _ _ _ => trivial) ?_ ?_
  · exact ⟨PH.le_set hr, _, _, rfl⟩
  · rintro i ⟨vs', H'⟩ v hi' ⟨hle, ti, oi, hvs⟩ ⟨tv, rfl⟩
    dsimp only at hvs hle; subst hvs
    rw [show (ts : Int) + 1 * (i : Int) = ((ts + i : Nat) : Int) from by omega]
    obtain ⟨tx, hx⟩ := int_at hi (k := ts + i) (by omega)
    walk_at "jx"
    refine j_divI (by omega) (div_small (by omega)) fun _ => ?_
    walk_at "jx"
    refine at_T (hc.le hle) (Int.le_trans (by decide) (Int.natCast_nonneg _)) (lt_big (by omega)) (seq_at (by rw [hi.length]; omega)) (by rw [Int.toNat_natCast] at hx; exact hx) ?_
    rw [nat_fdiv]
    have hq : (ts + i) / ts ≤ ts + i := Nat.div_le_self _ _
    refine j_mulI (mul_left (by rw [Int.natAbs_natCast]; omega)) fun _ => ?_
    refine j_addI fun tz => ?_
    walk_at "jx"
    exact ⟨hle, _, _, by rw [ilGo_snoc]⟩
  · rintro ⟨vs', H'⟩ ⟨hle, ti, oi, hvs⟩
    dsimp only at hvs hle; subst hvs
    walk_at "jx"
    refine j_getOwn O' (I.le hle) (by k_is) (by k_is) (by k_is) (by k_is) (by rfl) (by rfl) ?_
    refine j_addI fun _ => ?_
    refine j_mulI (mul_left (by omega)) fun _ => ?_
    refine j_addI fun _ => ?_
    walk_at "jx"
    exact h _ _ hle
theorem f_less {a b : Addr} {v w : List Nat} {vs : List (Option Value)} {H : PH} {R : Value → Sg → Prop} (O : Ok C (n + 2)) (hr : RowAt H a v) (hv : v ∈ words 6) (hs : RowAt H b w) (hw : w ∈ words 6) (h : ∀ H', H.le H' → R (.bool (lessB v w)) ⟨vs, H'⟩) : J C (PySem.call (.ref 73) [.ref a, .ref b]) ⟨vs, H⟩ R := by
  refine j_call (rest := [Str.ofString "n", Str.ofString "ts"]) [Str.ofString "self", Str.ofString "other", Str.ofString "n", Str.ofString "ts"] [some (.ref a), some (.ref b), none, none] O (by k_is) (by k_is) (by rfl) (by rfl) (locs rfl) (by rfl) (by rfl) (by decide) (by decide) rfl rfl rfl fun A' base' L' st' O' => ?_
  have hr0 := hr
  have hs0 := hs
  obtain ⟨dx, tn, tc, t, t1, t2, cv, u, I, hn, hc, hi⟩ := hr
  obtain ⟨dx2, tn2, tc2, t', t1', t2', cv2, u2, I2, hn2, hc2, hi2⟩ := hs
  walk_at "jx"
  refine j_if ?_
  walk_at "jx"
  refine j_getOwn O' I (by k_is) (by k_is) (by k_is) (by k_is) (by rfl) (by rfl) ?_
  walk_at "jx"
  refine j_getOwn O' I2 (by k_is) (by k_is) (by k_is) (by k_is) (by rfl) (by rfl) ?_
  walk_at "jx"
  unfold lessB at h
  refine ⟨fun q => ?_, fun q => ?_⟩
  · walk_at "jx"
    have := h H (PH.le_refl _)
    rw [if_pos (Int.ofNat_le.mp (of_decide_eq_true q))] at this
    exact this
  rw [if_neg (fun q2 => of_decide_eq_false q (Int.ofNat_le.mpr q2))] at h
  walk_at "jx"
  refine j_if (j_mono (R := fun c σ' => c = decide ((wsOf v).1.length ≤ 1 ∧ (wsOf w).1.length ≤ 1) ∧ σ' = ⟨[some (.ref a), some (.ref b), none, none], H⟩) ?_ ?_)
  · walk_at "jx"
    refine j_getOwn O' I (by k_is) (by k_is) (by k_is) (by k_is) (by rfl) (by rfl) ?_
    walk_at "jx"
    refine ⟨fun q3 => ?_, fun q3 => ⟨(decide_eq_false fun q4 => of_decide_eq_false q3 (Int.ofNat_le.mpr q4.1)).symm, rfl⟩⟩
    walk_at "jx"
    refine j_getOwn O' I2 (by k_is) (by k_is) (by k_is) (by k_is) (by rfl) (by rfl) ?_
    walk_at "jx"
    refine ⟨fun q4 => ?_, fun q4 => ⟨(decide_eq_false fun q5 => of_decide_eq_false q4 (Int.ofNat_le.mpr q5.2)).symm, rfl⟩⟩
    walk_at "jx"
    exact ⟨(decide_eq_true ⟨Int.ofNat_le.mp (of_decide_eq_true q3), Int.ofNat_le.mp (of_decide_eq_true q4)⟩).symm, rfl⟩
  rintro c _ ⟨rfl, rfl⟩
  refine ⟨fun q2 => ?_, fun q2 => ?_⟩
  · rw [if_pos (of_decide_eq_true q2)] at h
    walk_at "jx"
    refine j_getOwn O' I (by k_is) (by k_is) (by k_is) (by k_is) (by rfl) (by rfl) ?_
    walk_at "jx"
    refine j_getOwn O' I2 (by k_is) (by k_is) (by k_is) (by k_is) (by rfl) (by rfl) ?_
    walk_at "jx"
    have := h H (PH.le_refl _)
    rw [← nat_le] at this
    exact this
  rw [if_neg (of_decide_eq_false q2)] at h
  walk_at "jx"
  refine j_methInst O' I (by k_is) (by k_is) (by k_is) (by rfl) ?_
  walk_at "jx"
  refine f_longest O' hr0 hv fun _ => ?_
  walk_at "jx"
  refine j_methInst O' I2 (by k_is) (by k_is) (by k_is) (by rfl) ?_
  walk_at "jx"
  refine f_longest O' hs0 hw fun _ => ?_
  walk_at "jx"
  refine j_max2 O' fun _ => ?_
  walk_at "jx"
  obtain ⟨L, hL, hL6⟩ := longest_nat hv hw
  rw [hL, Int.toNat_natCast] at h
  rw [hL]
  rw [show (L : Int) + 1 + 1 = ((L + 2 : Nat) : Int) from by omega]
  refine j_range2 fun r _ _ _ hr => ?_
  refine j_iterRange O' (N := L) PH.set_self (range_small (a := 2) (by decide) (by omega)) (range_one 2 (L + 2)) fun it F hF hIt => ?_
  refine forAt_iter (iter_range O') hF hIt (fun i σ' => H.le σ'.H ∧ (∀ j, j < i → indent v (2 + j) < indent w (2 + j)) ∧ ∃ tn oi, σ'.vs = [some (.ref a), some (.ref b), some (.int ((L : Int) + 1) tn), oi]) ?_ (fun _ _ _ => trivial) ?_ ?_
  · exact ⟨PH.le_set hr, fun j hj => absurd hj (Nat.not_lt_zero _), _, _, rfl⟩
  · rintro i ⟨vs', H'⟩ vv hi' ⟨hle, hall, tn3, oi, hvs⟩ ⟨tv, rfl⟩
    dsimp only at hvs hle; subst hvs
    rw [show (2 : Int) + 1 * (i : Int) = ((2 + i : Nat) : Int) from by omega]
    walk_at "jx"
    refine j_if ?_
    walk_at "jx"
    refine j_methInst O' (I.le hle) (by k_is) (by k_is) (by k_is) (by rfl) ?_
    walk_at "jx"
    refine f_indent O' (hr0.le hle) hv (Nat.le_add_right_of_le (by decide)) (by omega) fun _ H1 l1 => ?_
    replace hle := PH.le_trans hle l1
    walk_at "jx"
    refine j_methInst O' (I2.le hle) (by k_is) (by k_is) (by k_is) (by rfl) ?_
    walk_at "jx"
    refine f_indent O' (hs0.le hle) hw (Nat.le_add_right_of_le (by decide)) (by omega) fun _ H2 l2 => ?_
    replace hle := PH.le_trans hle l2
    walk_at "jx"
    refine ⟨fun q => ?_, fun q => ?_⟩
    · walk_at "jx"
      have := h H2 hle
      rw [List.all_eq_false.mpr ⟨i, List.mem_range.mpr hi', by rw [decide_eq_true_eq]; exact Int.not_lt.mpr (of_decide_eq_true q)⟩] at this
      exact this
    · walk_at "jx"
      refine ⟨hle, fun j hj => ?_, _, _, rfl⟩
      rcases Nat.lt_or_ge j i with hj2 | hj2
      · exact hall j hj2
      · rw [Nat.le_antisymm (Nat.le_of_lt_succ hj) hj2]
        exact Int.not_le.mp (of_decide_eq_false q)
  · rintro ⟨vs', H'⟩ ⟨hle, hall, tn3, oi, hvs⟩
    dsimp only at hvs hle; subst hvs
    walk_at "jx"
    have := h H' hle
    rw [List.all_eq_true.mpr fun j hj => decide_eq_true (hall j (List.mem_range.mp hj))] at this
    exact this
end
end Mine

namespace Mine
def popW (ls : Nat → Nat → Bool) (k : Nat) : List Nat → List Nat
  | a :: b :: r => if ls a k then a :: b :: r else popW ls k (b :: r)
  | l => l
def hungStep (ls : Nat → Nat → Bool) (s : List Nat × List Nat) (k : Nat) : List Nat × List Nat := let st := popW ls k s.2; (s.1 ++ [st.headD 0], k :: st)
def hungTo (ls : Nat → Nat → Bool) : Nat → List Nat × List Nat
  | 0 => ([], [0])
  | i + 1 => hungStep ls (hungTo ls i) (i + 1)
theorem popW_sub {ls : Nat → Nat → Bool} {k : Nat} : ∀ {st : List Nat} {a : Nat}, a ∈ popW ls k st → a ∈ st
  | [], _, h => h
  | [_], _, h => h
  | a :: b :: r, c, h => by
    unfold popW at h
    split at h
    · exact h
    · exact List.mem_cons_of_mem _ (popW_sub h)
theorem popW_ne {ls : Nat → Nat → Bool} {k : Nat} : ∀ {st : List Nat}, st ≠ [] → popW ls k st ≠ []
  | [], h => h
  | [_], h => h
  | a :: b :: r, h => by
    unfold popW
    split
    · exact h
    · exact popW_ne (List.cons_ne_nil _ _)
theorem popW_len {ls : Nat → Nat → Bool} {k : Nat} : ∀ {st : List Nat}, (popW ls k st).length ≤ st.length
  | [] => Nat.le_refl _
  | [_] => Nat.le_refl _
  | a :: b :: r => by
    unfold popW
    split
    · exact Nat.le_refl _
    · exact Nat.le_succ_of_le popW_len
theorem hungTo_len {ls : Nat → Nat → Bool} : ∀ {i : Nat}, (hungTo ls i).2.length ≤ i + 1
  | 0 => Nat.le_refl _
  | i + 1 => Nat.succ_le_succ (Nat.le_trans popW_len hungTo_len)
theorem hungTo_st {ls : Nat → Nat → Bool} : ∀ {i : Nat}, (hungTo ls i).2 ≠ [] ∧ ∀ a ∈ (hungTo ls i).2, a ≤ i
  | 0 => ⟨List.cons_ne_nil _ _, fun a h => Nat.le_of_eq (List.mem_singleton.mp h)⟩
  | i + 1 => ⟨List.cons_ne_nil _ _, fun a h => by
    rcases List.mem_cons.mp h with rfl | h
    · exact Nat.le_refl _
    · exact Nat.le_succ_of_le (hungTo_st.2 a (popW_sub h))⟩
theorem head_mem {st : List Nat} (h : st ≠ []) : st.headD 0 ∈ st := by
  cases st with
  | nil => exact absurd rfl h
  | cons a r => exact List.mem_cons_self
theorem hungTo_ow {ls : Nat → Nat → Bool} : ∀ {i : Nat}, (hungTo ls i).1.length = i ∧ ∀ a ∈ (hungTo ls i).1, a ≤ i
  | 0 => ⟨rfl, fun a h => nomatch h⟩
  | i + 1 => by
    obtain ⟨h1, h2⟩ := hungTo_ow (ls := ls) (i := i)
    refine ⟨by show ((hungTo ls i).1 ++ [_]).length = _; rw [List.length_append, h1]; rfl, fun a h => ?_⟩
    rcases List.mem_append.mp h with h | h
    · exact Nat.le_succ_of_le (h2 a h)
    · rw [List.mem_singleton.mp h]
      exact Nat.le_succ_of_le (hungTo_st.2 _ (popW_sub (head_mem (popW_ne hungTo_st.1))))
theorem hungTo_at {ls : Nat → Nat → Bool} : ∀ {i j : Nat}, j < i → (hungTo ls i).1.getD j 0 ≤ j
  | i + 1, j, h => by
    have hl := (hungTo_ow (ls := ls) (i := i)).1
    show ((hungTo ls i).1 ++ [_]).getD j 0 ≤ j
    rcases Nat.lt_or_ge j i with h1 | h1
    · rw [getD_left (by rw [hl]; exact h1)]; exact hungTo_at h1
    · have : j = (hungTo ls i).1.length := by rw [hl]; exact Nat.le_antisymm (Nat.le_of_lt_succ h) h1
      subst this
      rw [getD_end, hl]
      exact hungTo_st.2 _ (popW_sub (head_mem (popW_ne hungTo_st.1)))
/-- the rows' paths and lines -/
def pathsTo (o : List Nat) : Nat → List (List Nat)
  | 0 => [[]]
  | i + 1 => pathsTo o i ++ [(pathsTo o i).getD (o.getD i 0) [] ++ [97 + (o.take i).count (o.getD i 0)]]
def linesTo (o : List Nat) (nt : Nat → Nat) : Nat → List (List Nat)
  | 0 => [[]]
  | i + 1 => linesTo o nt i ++ [(pathsTo o (i + 1)).getD (i + 1) [] ++ [if nt (i + 1) % 2 = 1 then 82 else 76]]
theorem pathsTo_ok {o : List Nat} : ∀ {i : Nat}, (pathsTo o i).length = i + 1 ∧ ∀ j, ((pathsTo o i).getD j []).length ≤ i
  | 0 => ⟨rfl, fun j => by rcases j with _ | j <;> exact Nat.le_refl _⟩
  | i + 1 => by
    obtain ⟨h1, h2⟩ := pathsTo_ok (o := o) (i := i)
    refine ⟨by show (pathsTo o i ++ [_]).length = _; rw [List.length_append, h1]; rfl, fun j => ?_⟩
    show ((pathsTo o i ++ [_]).getD j []).length ≤ _
    rcases Nat.lt_trichotomy j (pathsTo o i).length with h3 | h3 | h3
    · rw [getD_left h3]; exact Nat.le_succ_of_le (h2 j)
    · subst h3; rw [getD_end, List.length_append]; exact Nat.succ_le_succ (h2 _)
    · rw [List.getD_eq_getElem?_getD, List.getElem?_eq_none (by rw [List.length_append]; exact h3)]; exact Nat.zero_le _
theorem linesTo_length {o : List Nat} {nt : Nat → Nat} : ∀ {i : Nat}, (linesTo o nt i).length = i + 1
  | 0 => rfl
  | i + 1 => by show (linesTo o nt i ++ [_]).length = _; rw [List.length_append, linesTo_length]; rfl
def mkS (w : List Nat) : Str := ⟨w.toArray⟩
theorem strs_map {vs : List Value} {l : List (List Nat)} (h : StrsAre' vs (l.map mkS)) {k : Nat} (hk : k < l.length) : ∃ t, vs[((k : Int)).toNat]? = some (.str (mkS (l.getD k [])) t) := by
  obtain ⟨t, e⟩ := strs_at h (k := k) (by rw [List.length_map]; exact hk)
  refine ⟨t, e.trans ?_⟩
  rw [List.getD_eq_getElem?_getD, List.getElem?_map, List.getD_eq_getElem?_getD, List.getElem?_eq_getElem hk]; rfl
/-- a row's number, with its token -/
def V (tk : Nat → Nat) (a : Nat) : Value := .int (a : Int) (tk a)
/-- the tokens of the rows up to the i-th lie apart, below B -/
def TokOk (tk : Nat → Nat) (i B : Nat) : Prop := (∀ a, a ≤ i → 1 ≤ tk a ∧ tk a < B) ∧ ∀ a b, a ≤ i → b ≤ i → a ≠ b → tk a ≠ tk b
def tkNext (tk : Nat → Nat) (i t : Nat) : Nat → Nat := fun a => if a = i + 1 then t else tk a
theorem tkNext_old {tk : Nat → Nat} {i t a : Nat} (h : a ≤ i) : tkNext tk i t a = tk a := if_neg (Nat.ne_of_lt (Nat.lt_succ_of_le h))
theorem tkNext_new {tk : Nat → Nat} {i t : Nat} : tkNext tk i t (i + 1) = t := if_pos rfl
theorem TokOk.next {tk : Nat → Nat} {i B t : Nat} (h : TokOk tk i B) (ht : B ≤ t) : TokOk (tkNext tk i t) (i + 1) (t + 1) := by
  have h0 := h.1 0 (Nat.zero_le _)
  have cs : ∀ a, a ≤ i + 1 → a = i + 1 ∨ a ≤ i := fun a ha => (Nat.lt_or_ge i a).imp (fun q => Nat.le_antisymm ha q) id
  refine ⟨fun a ha => ?_, fun a b ha hb hab => ?_⟩
  · rcases cs a ha with rfl | ha
    · rw [tkNext_new]; omega
    · rw [tkNext_old ha]; have := h.1 a ha; omega
  · rcases cs a ha with rfl | ha <;> rcases cs b hb with rfl | hb
    · exact absurd rfl hab
    · rw [tkNext_new, tkNext_old hb]; have := h.1 b hb; omega
    · rw [tkNext_new, tkNext_old ha]; have := h.1 a ha; omega
    · rw [tkNext_old ha, tkNext_old hb]; exact h.2 a b ha hb hab
theorem V_next {tk : Nat → Nat} {i t : Nat} {l : List Nat} (h : ∀ a ∈ l, a ≤ i) : l.map (V (tkNext tk i t)) = l.map (V tk) :=
  List.map_congr_left fun a ha => by unfold V; rw [tkNext_old (h a ha)]
theorem V_self {tk : Nat → Nat} {i t : Nat} : V (tkNext tk i t) (i + 1) = .int ((i + 1 : Nat) : Int) t := by unfold V; rw [tkNext_new]
theorem slice_own {x : Value} {l : List Value} (h : l.length = 5) {i : Nat} (hi : i < 5) : slicePick (x :: l).toArray (some 1) (some ((i + 1 : Nat) : Int)) none = (l.take i).toArray := by
  rcases l with _ | ⟨a, _ | ⟨b, _ | ⟨c, _ | ⟨d, _ | ⟨e, _ | ⟨f, l⟩⟩⟩⟩⟩⟩
  iterate 5 cases h
  · rcases i with _ | _ | _ | _ | _ | i
    iterate 5 rfl
    omega
  · simp at h
theorem count_int (l : List Nat) (b : Nat) : (l.map fun (k : Nat) => (k : Int)).count (b : Int) = l.count b := by
  induction l with
  | nil => rfl
  | cons a l ih =>
    rw [List.map_cons, List.count_cons, List.count_cons, ih]
    by_cases h : a = b
    · subst h; simp
    · have : ¬ (a : Int) = b := fun q => h (Int.ofNat.inj q)
      simp [h, this]
theorem abcde_at {c : Nat} (h : c < 5) : (Str.ofString "abcde").cps[((c : Int)).toNat]? = some (97 + c) := by
  rw [Int.toNat_natCast]
  rcases c with _ | _ | _ | _ | _ | c
  iterate 5 decide
  omega
theorem mkS_snoc (w : List Nat) (c : Nat) : mkS w ++ ⟨#[c]⟩ = mkS (w ++ [c]) := by
  show (⟨w.toArray ++ [c].toArray⟩ : Str) = _
  rw [List.append_toArray]; rfl
theorem mkS_len (w : List Nat) (c : Nat) : (mkS w ++ ⟨#[c]⟩).length = w.length + 1 := by rw [mkS_snoc]; show (w ++ [c]).toArray.size = _; simp
theorem LR_at (m : Nat) : (Str.ofString "LR").cps[(((m % 2 : Nat) : Int)).toNat]? = some (if m % 2 = 1 then 82 else 76) := by
  rw [Int.toNat_natCast]
  rcases Nat.mod_two_eq_zero_or_one m with h | h <;> rw [h] <;> decide
theorem nat_fmod (a b : Nat) : ((a : Nat) : Int).fmod (b : Nat) = ((a % b : Nat) : Int) := by rw [Int.fmod_eq_emod_of_nonneg _ (Int.natCast_nonneg b)]; rfl
theorem small_of {a : Nat} (h : a ≤ 5) : smallInt (a : Int) = true := by
  rcases a with _ | _ | _ | _ | _ | _ | a
  iterate 6 decide
  omega
theorem all_apart {tk : Nat → Nat} {B : Nat} (h : TokOk tk 5 B) {l : List Nat} (hl : ∀ a ∈ l, a ≤ 5) {b : Nat} (hb : b ≤ 5) : AllApart (b : Int) (tk b) (l.map (V tk)) (l.map fun (k : Nat) => (k : Int)) := by
  refine ⟨by rw [List.length_map, List.length_map], fun i hi => ?_⟩
  rw [List.length_map] at hi
  have hm := hl _ (List.getElem_mem hi)
  refine ⟨tk l[i], by rw [List.getElem?_map, List.getElem?_eq_getElem hi, List.getElem_map]; rfl, ?_⟩
  rw [List.getElem_map]
  refine ⟨Nat.ne_of_gt (h.1 _ hm).1, Nat.ne_of_gt (h.1 _ hb).1, fun _ => small_of hm, fun hn => h.2 _ _ hm hb fun q => hn (congrArg _ q)⟩
/-- the instances of the leads -/
def RowsAt (H : PH) (rl : Addr) (ws : Nat → List Nat) : Prop := ∃ refs, IL H rl refs ∧ refs.length = 6 ∧ ∀ i, i < 6 → ∃ a, refs[i]? = some (.ref a) ∧ RowAt H a (ws i)
theorem RowsAt.le {H H' : PH} {rl : Addr} {ws : Nat → List Nat} (h : RowsAt H rl ws) (l : H.le H') : RowsAt H' rl ws :=
  let ⟨refs, h1, h2, h3⟩ := h
  ⟨refs, h1.le l, h2, fun i hi => let ⟨a, e, r⟩ := h3 i hi; ⟨a, e, r.le l⟩⟩
theorem PL.setO {H : PH} {a b : Addr} {items : List Value} {o : Obj} (h : PL H a items) (n : a ≠ b) : PL (H.set b o) a items := let ⟨k, e⟩ := h; ⟨k, (PH.set_ne n).trans e⟩
theorem getD_lead {xs : List Str} (hx : ∀ x ∈ xs, LeadOk x) (i : Nat) : (xs.getD i Str.empty).cps.toList ∈ words 6 := by
  rw [List.getD_eq_getElem?_getD]
  cases e : xs[i]? with
  | none => decide
  | some x => exact (hx x (List.mem_of_getElem? e)).mem
inductive HungI (H1 : PH) (ls : Nat → Nat → Bool) (t0 : Tok) (lr D ol pl : Addr) : Nat → Nat → Sg → Prop
  | mk (i B : Nat) (H' : PH) (tk : Nat → Nat) (ok : Option Value) : H1.le H' → TokOk tk i B → PL H' ol (.int 0 t0 :: (hungTo ls i).1.map (V tk)) → PL H' pl ((hungTo ls i).2.map (V tk)).reverse →
    HungI H1 ls t0 lr D ol pl i B ⟨[some (.ref lr), some (.ref D), some (.ref ol), some (.ref pl), ok, none, none], H'⟩
inductive HungW (H1 : PH) (ls : Nat → Nat → Bool) (oi : List Value) (tk : Nat → Nat) (i : Nat) (vs : List (Option Value)) (ol pl : Addr) : Nat → Sg → Prop
  | mk (H' : PH) (st : List Nat) : H1.le H' → st.length ≤ i + 1 → st ≠ [] → (∀ a ∈ st, a ≤ i) → popW ls (i + 1) st = popW ls (i + 1) (hungTo ls i).2 → PL H' ol oi → PL H' pl (st.map (V tk)).reverse → HungW H1 ls oi tk i vs ol pl st.length ⟨vs, H'⟩
inductive HungO (H1 : PH) (oi pi : List Value) (vs : List (Option Value)) (ol pl : Addr) : Flow → Sg → Prop
  | mk (H' : PH) : H1.le H' → PL H' ol oi → PL H' pl pi → HungO H1 oi pi vs ol pl .next ⟨vs, H'⟩
inductive HungP (H₁ : PH) (o : List Nat) (nt : Nat → Nat) (lr D ol pl pa la : Addr) : Nat → Sg → Prop
  | mk (i : Nat) (H' : PH) (pv lv : List Value) (ok : Option Value) : H₁.le H' → PL H' pa pv → PL H' la lv → StrsAre' pv ((pathsTo o i).map mkS) → StrsAre' lv ((linesTo o nt i).map mkS) →
    HungP H₁ o nt lr D ol pl pa la i ⟨[some (.ref lr), some (.ref D), some (.ref ol), some (.ref pl), ok, some (.ref pa), some (.ref la)], H'⟩
section
variable {C : Cx} {σ : Sg} {n : Nat}
theorem f_hung {lr : Addr} {items : List Value} {xs : List Str} {vs : List (Option Value)} {H : PH} {R : Value → Sg → Prop} (O : Ok C (n + 4)) (hl : IL H lr items) (hs : StrsAre' items xs) (h6 : xs.length = 6) (hx : ∀ x ∈ xs, LeadOk x)
    (h : ∀ tp pa pv la lv H', H.le H' → TL H' tp [.ref pa, .ref la] → PL H' pa pv → PL H' la lv → StrsAre' pv ((pathsTo (hungTo (fun a b => lessB (xs.getD a Str.empty).cps.toList (xs.getD b Str.empty).cps.toList) 5).1 5).map mkS) →
      StrsAre' lv ((linesTo (hungTo (fun a b => lessB (xs.getD a Str.empty).cps.toList (xs.getD b Str.empty).cps.toList) 5).1 (fun k => (wsOf (xs.getD k Str.empty).cps.toList).2.2.2) 5).map mkS) → R (.ref tp) ⟨vs, H'⟩) : J C (PySem.call (.ref 211) [.ref lr]) ⟨vs, H⟩ R := by
  refine j_call (rest := [Str.ofString "rows", Str.ofString "owners", Str.ofString "pile", Str.ofString "k", Str.ofString "paths", Str.ofString "lines"]) [Str.ofString "leads", Str.ofString "rows", Str.ofString "owners", Str.ofString "pile", Str.ofString "k", Str.ofString "paths", Str.ofString "lines"] [some (.ref lr), none, none, none, none, none, none] O (by k_is) (by k_is) (by rfl) (by rfl) (locs rfl) (by rfl) (by rfl) (by decide) (by decide) rfl rfl rfl fun A' base' L' st' O' => ?_
  walk_at "jx"
  have hlen : items.length = 6 := (items_len hs).trans h6
  refine j_setComp (n := n + 3) O' (cl := []) (ns := [Str.ofString "lead"]) (by rfl) (by rfl) (by decide) rfl (by decide) (by decide) (by intro _; rfl) ?_
  walk_at "jx"
  refine j_iterList O' hl fun it F hF hIt => ?_
  refine compAt_iter (n := n + 3) (by rw [hlen]; decide) (fun _ _ h => h.le le_both) (fun base' L'' O'' => iter_list O'') hF hIt
    (fun i ys Hc => H.le Hc ∧ ys.length = i ∧ ∀ j (hj : j < i), ∃ a, ys[j]? = some (.ref a) ∧ RowAt Hc a (xs.getD j Str.empty).cps.toList) ?_ (fun _ _ _ h => hl.le h.1) ?_ ?_
  · exact ⟨PH.le_refl _, rfl, fun j hj => absurd hj (Nat.not_lt_zero j)⟩
  · rintro base' L'' O'' i ys Hc v vs' hi hvl ⟨hle2, hyl, hys⟩ hv
    obtain ⟨v1, rfl⟩ : ∃ v1, vs' = [v1] := by
      rcases vs' with _ | ⟨a1, _ | ⟨_, _⟩⟩
      · cases hvl
      · exact ⟨_, rfl⟩
      · cases hvl
    have hi6 : i < xs.length := by rw [h6, ← hlen]; exact hi
    obtain ⟨t, e⟩ := strs_at hs hi6
    rw [Int.toNat_natCast, hv] at e
    cases e
    have hxo : LeadOk (xs.getD i Str.empty) := hx _ (by rw [List.getD_eq_getElem?_getD, List.getElem?_eq_getElem hi6]; exact List.getElem_mem _)
    walk_at "jx"
    refine j_tests0 ⟨fun _ => ?_, (fun hh => nomatch hh)⟩
    walk_at "jx"
    refine f_ws O'' hxo fun a H3 hle3 hr => ⟨rfl, PH.le_trans hle2 hle3, by rw [List.length_append, hyl]; rfl, fun j hj => ?_⟩
    rcases Nat.lt_or_ge j i with hji | hji
    · obtain ⟨a', e1, e2⟩ := hys j hji
      exact ⟨a', by rw [List.getElem?_append_left (by rw [hyl]; exact hji)]; exact e1, e2.le hle3⟩
    · have : j = i := Nat.le_antisymm (Nat.le_of_lt_succ hj) hji
      subst this
      exact ⟨a, by rw [← hyl, List.getElem?_append_right (Nat.le_refl _), Nat.sub_self]; rfl, hr⟩
  rintro D ys Hc k hD ⟨hle2, hyl, hys⟩
  iterate 2 walk_at "j"
  have hlr : IL (Hc.set D (listOf ys.toArray k)) lr items := (hl.le hle2).le (PH.le_set hD)
  have g1 : H.le (Hc.set D (listOf ys.toArray k)) := PH.le_trans hle2 (PH.le_set hD)
  have hrows : RowsAt (Hc.set D (listOf ys.toArray k)) D fun i => (xs.getD i Str.empty).cps.toList := ⟨ys, PL.new.il, hyl.trans hlen, fun i hi => let ⟨a, e, r⟩ := hys i (hlen ▸ hi); ⟨a, e, r.le (PH.le_set hD)⟩⟩
  have hw6 : ∀ i, (xs.getD i Str.empty).cps.toList ∈ words 6 := fun i => getD_lead hx i
  generalize hls : (fun a b => lessB (xs.getD a Str.empty).cps.toList (xs.getD b Str.empty).cps.toList) = ls
  generalize Hc.set D (listOf ys.toArray k) = H1 at hlr g1 hrows
  refine jt_to (jt_cons (jt_set (jt_list1 fun t0 ol hb0 hol => ?_) (by rfl)))
  walk_at "j"
  show JT _ _ _ _ _
  refine jt_cons (jt_set (jt_list1 fun t1 pl hb1 hpl => ?_) (by rfl))
  walk_at "j"
  show JT _ _ _ _ _
  have npl : H1 pl = none := none_le (PH.le_set hol) hpl
  have nop : ol ≠ pl := fun q => by rw [← q, PH.set_self] at hpl; cases hpl
  refine jt_consJ (jt_for (jt_of ?_) (by intro _; rfl))
  walk_at "jx"
  refine j_range2 fun r _ _ _ hr => ?_
  refine j_iterRange O' (N := 5) PH.set_self (by decide) (by decide) fun it2 F2 hF2 hIt2 => ?_
  refine forAtT_range O' hF2 hIt2 (HungI H1 ls t0 lr D ol pl) ?_ ?_ ?_
  · exact .mk _ _ _ (fun _ => t1) _ (PH.le_trans (PH.le_set hol) (PH.le_trans (PH.le_set hpl) (PH.le_set hr))) ⟨fun a _ => ⟨Nat.le_trans (Nat.succ_le_succ (Nat.zero_le t0)) hb1, Nat.lt_succ_self t1⟩, fun a b ha hb hab => absurd ((Nat.le_zero.mp ha).trans (Nat.le_zero.mp hb).symm) hab⟩ ((PL.new.le (PH.le_set hpl)).le (PH.le_set hr)) (PL.new.le (PH.le_set hr))
  · rintro i B _ t hi' ⟨H', tk, ok, hle, htk, hpo, hpp⟩ hbt
    refine opaque_go fun P hPn => ?_
    rw [show (1 : Int) + 1 * (i : Int) = ((i + 1 : Nat) : Int) from by omega]
    obtain ⟨hst1, hst2⟩ := hungTo_st (ls := ls) (i := i)
    obtain ⟨how1, how2⟩ := hungTo_ow (ls := ls) (i := i)
    walk_at "jx"
    refine j_mono (R := HungO H1 (.int 0 t0 :: (hungTo ls i).1.map (V tk)) ((popW ls (i + 1) (hungTo ls i).2).map (V tk)).reverse [some (.ref lr), some (.ref D), some (.ref ol), some (.ref pl), some (.int ((i + 1 : Nat) : Int) t), none, none] ol pl) ?_ ?_
    · refine j_whileP (HungW H1 ls (.int 0 t0 :: (hungTo ls i).1.map (V tk)) tk i [some (.ref lr), some (.ref D), some (.ref ol), some (.ref pl), some (.int ((i + 1 : Nat) : Int) t), none, none] ol pl) _ (.mk _ _ hle hungTo_len hst1 hst2 rfl hpo hpp) ?_
      rintro kf _ ⟨H2, st, hle3, hkl, hne, hmem, hpop, hpo3, hpp3⟩ P2 hPn2 hPc2 hPb2 hPr2
      rcases st with _ | ⟨a, _ | ⟨b, r'⟩⟩
      · exact absurd rfl hne
      · walk_at "jx"
        refine j_lenL hpp3.il (Int.lt_of_le_of_lt (Int.ofNat_le.mpr (Nat.le_refl 1)) (by decide)) fun _ => ?_
        walk_at "jx"
        refine ⟨fun hc => absurd hc (show ¬ decide ((1 : Int) > 1) = true by decide), fun _ => ⟨(fun hc => nomatch hc), fun _ => hpop ▸ HungO.mk _ hle3 hpo3 hpp3⟩⟩
      have er : ((a :: b :: r').map (V tk)).reverse = ((b :: r').map (V tk)).reverse ++ [V tk a] := List.reverse_cons
      rw [er] at hpp3
      have hal : (((b :: r').map (V tk)).reverse ++ [V tk a]).length = r'.length + 2 := by simp
      have hai : a ≤ i := hmem a List.mem_cons_self
      obtain ⟨refs, hrl, hr6, hra⟩ := hrows
      obtain ⟨x, ex, hrx⟩ := hra a (by omega)
      obtain ⟨y, ey, hry⟩ := hra (i + 1) (by omega)
      replace hrx : RowAt H1 x (xs.getD a Str.empty).cps.toList := hrx
      replace hry : RowAt H1 y (xs.getD (i + 1) Str.empty).cps.toList := hry
      have hrx3 := hrx.le hle3
      obtain ⟨dx, _, _, _, _, _, _, _, hI, _⟩ := hrx3
      walk_at "jx"
      refine j_lenL hpp3.il (by rw [hal]; simp only [List.length_cons] at hkl; omega) fun _ => ?_
      walk_at "jx"
      refine ⟨fun _ => ?_, fun hc => absurd (of_decide_eq_false hc) (by rw [hal]; simp; omega)⟩
      walk_at "jx"
      refine f_getLast O' hpp3.il ?_
      refine at_L (hrl.le hle3) (Int.natCast_nonneg _) (lt_big (by omega)) (by rw [Int.toNat_natCast]; exact ex) ?_
      refine j_methInst O' hI (by k_is) (by k_is) (by k_is) (by rfl) ?_
      walk_at "jx"
      refine at_L (hrl.le hle3) (Int.natCast_nonneg _) (lt_big (by omega)) (by rw [Int.toNat_natCast]; exact ey) ?_
      walk_at "jx"
      refine f_less O' (hrx.le hle3) (hw6 _) (hry.le hle3) (hw6 _) fun H3 h3 => ?_
      walk_at "jx"
      have hq : lessB (xs.getD a Str.empty).cps.toList (xs.getD (i + 1) Str.empty).cps.toList = ls a (i + 1) := by rw [← hls]
      have hpe : popW ls (i + 1) (a :: b :: r') = if ls a (i + 1) then a :: b :: r' else popW ls (i + 1) (b :: r') := rfl
      rw [hq]
      replace hpo3 := hpo3.le h3
      replace hpp3 := hpp3.le h3
      replace hle3 := PH.le_trans hle3 h3
      cases hb2 : ls a (i + 1) with
      | true =>
        rw [hb2, if_pos rfl] at hpe
        exact ⟨(fun hc => nomatch hc), fun _ => ⟨(fun hc => nomatch hc), fun _ => .mk _ hle3 hpo3 (by rw [← hpop, hpe, er]; exact hpp3)⟩⟩
      | false =>
        rw [hb2, if_neg Bool.false_ne_true] at hpe
        refine ⟨fun _ => ?_, (fun hc => nomatch hc)⟩
        walk_at "jx"
        refine f_delLast O' hpp3 (le_line (by simp only [List.length_cons, List.length_reverse, List.length_map] at hkl ⊢; omega)) fun kk => ?_
        walk_at "jx"
        exact hPn2 _ _ (Nat.lt_succ_self _) (.mk _ (b :: r') (le_setN hle3 npl) (Nat.le_of_succ_le hkl) (List.cons_ne_nil _ _) (fun c hc => hmem c (List.mem_cons_of_mem _ hc)) (hpe.symm.trans hpop) (hpo3.setO nop) PL.new)
    rintro _ _ ⟨H2, hle3, hpo3, hpp3⟩
    walk_at "jx"
    refine j_gmAppend hpo3 ?_
    walk_at "jx"
    have hpn := popW_ne (ls := ls) (k := i + 1) hst1
    have hpm : ∀ c ∈ popW ls (i + 1) (hungTo ls i).2, c ≤ i := fun c hc => hst2 c (popW_sub hc)
    have hpl2 : (popW ls (i + 1) (hungTo ls i).2).length ≤ i + 1 := Nat.le_trans popW_len hungTo_len
    have hsc : hungTo ls (i + 1) = ((hungTo ls i).1 ++ [(popW ls (i + 1) (hungTo ls i).2).headD 0], (i + 1) :: popW ls (i + 1) (hungTo ls i).2) := rfl
    generalize popW ls (i + 1) (hungTo ls i).2 = st at hpp3 hpn hpm hpl2 hsc
    rcases st with _ | ⟨a, st⟩
    · exact absurd rfl hpn
    have er : ((a :: st).map (V tk)).reverse = (st.map (V tk)).reverse ++ [V tk a] := List.reverse_cons
    rw [er] at hpp3
    refine f_getLast O' hpp3.il ?_
    walk_at "jx"
    refine j_append hpo3 (le_line (by rw [List.length_cons, List.length_map, how1]; omega)) fun k1 => ?_
    walk_at "jx"
    refine j_gmAppend (hpp3.setO (Ne.symm nop)) ?_
    walk_at "jx"
    refine j_append (hpp3.setO (Ne.symm nop)) (le_line (by rw [← er, List.length_reverse, List.length_map]; omega)) fun k2 => ?_
    walk_at "jx"
    have e1 : Value.int 0 t0 :: ((hungTo ls i).1 ++ [(a :: st).headD 0]).map (V (tkNext tk i t)) = (.int 0 t0 :: (hungTo ls i).1.map (V tk)) ++ [V tk a] := by
      rw [V_next (i := i), List.map_append]
      · rfl
      · intro c hc
        rcases List.mem_append.mp hc with hc | hc
        · exact how2 c hc
        · exact hpm c (List.mem_singleton.mp hc ▸ List.mem_cons_self)
    have e2 : (((i + 1) :: a :: st).map (V (tkNext tk i t))).reverse = ((st.map (V tk)).reverse ++ [V tk a]) ++ [.int ((i + 1 : Nat) : Int) t] := by
      rw [List.map_cons, List.reverse_cons, V_self, V_next hpm, er]
    exact hPn _ (.mk _ _ _ (tkNext tk i t) _ (le_setN (le_setN hle3 hol) npl) (htk.next hbt) (by rw [hsc, e1]; exact PL.new.setO nop) (by rw [hsc, e2]; exact PL.new))
  · rintro B _ ⟨H', tk, ok, hle, htk, hpo, hpp⟩
    have how := hungTo_ow (ls := ls) (i := 5)
    have hat := fun j (hj : j < 5) => hungTo_at (ls := ls) (i := 5) hj
    generalize ho : (hungTo ls 5).1 = o at hpo how hat
    walk_at "jx"
    refine j_newList (le_line (by simp)) fun pa hpa => ?_
    walk_at "jx"
    refine j_newList (le_line (by simp)) fun la hla => ?_
    walk_at "jx"
    refine j_range2 fun r3 _ _ _ hr3 => ?_
    refine j_iterRange O' (N := 5) PH.set_self (by decide) (by decide) fun it3 F3 hF3 hIt3 => ?_
    have npa : pa ≠ la := fun q => by rw [← q, PH.set_self] at hla; cases hla
    have nla : H' la = none := none_le (PH.le_set hpa) hla
    refine forAt_iterP (iter_range O') hF3 hIt3 (HungP H' o (fun k => (wsOf (xs.getD k Str.empty).cps.toList).2.2.2) lr D ol pl pa la) ?_ (fun _ _ _ => trivial) ?_ ?_
    · exact .mk _ _ _ _ _ (PH.le_trans (PH.le_set hpa) (PH.le_trans (PH.le_set hla) (PH.le_set hr3))) ((PL.new.le (PH.le_set hla)).le (PH.le_set hr3)) (PL.new.le (PH.le_set hr3)) ⟨[(_, _)], rfl, rfl⟩ ⟨[(_, _)], rfl, rfl⟩
    · rintro i _ v hi' ⟨H3, pv, lv, ok3, hle3, hpv, hlv, hsp, hsl⟩ ⟨t, rfl⟩ P hPn hPc hPb hPr
      rw [show (1 : Int) + 1 * (i : Int) = ((i + 1 : Nat) : Int) from by omega]
      walk_at "jx"
      refine j_gmAppend hpv ?_
      walk_at "jx"
      have hb := hat i hi'
      have hob : o[i]? = some (o.getD i 0) := by rw [List.getD_eq_getElem?_getD, List.getElem?_eq_getElem (by rw [how.1]; exact hi')]; rfl
      have hpc : (pathsTo o (i + 1)) = pathsTo o i ++ [(pathsTo o i).getD (o.getD i 0) [] ++ [97 + (o.take i).count (o.getD i 0)]] := rfl
      have hlc : linesTo o (fun k => (wsOf (xs.getD k Str.empty).cps.toList).2.2.2) (i + 1) = linesTo o (fun k => (wsOf (xs.getD k Str.empty).cps.toList).2.2.2) i ++ [(pathsTo o (i + 1)).getD (i + 1) [] ++ [if (wsOf (xs.getD (i + 1) Str.empty).cps.toList).2.2.2 % 2 = 1 then 82 else 76]] := rfl
      have hpk := pathsTo_ok (o := o) (i := i)
      have hpk1 := pathsTo_ok (o := o) (i := i + 1)
      have hct : (o.take i).count (o.getD i 0) < 5 := Nat.lt_of_le_of_lt List.count_le_length (by rw [List.length_take]; omega)
      have hob2 : (Value.int 0 t0 :: o.map (V tk))[(((i + 1 : Nat) : Int)).toNat]? = some (.int ((o.getD i 0 : Nat) : Int) (tk (o.getD i 0))) := by
        rw [Int.toNat_natCast, List.getElem?_cons_succ, List.getElem?_map, hob]; rfl
      generalize o.getD i 0 = b at hb hob hpc hct hob2
      have hpo3 := hpo.le hle3
      have hi1 : (i + 1 : Nat) < 1000 := Nat.lt_trans (Nat.succ_lt_succ hi') (by decide)
      refine at_L hpo3.il (Int.natCast_nonneg _) (lt_big hi1) hob2 ?_
      obtain ⟨tx, hx⟩ := strs_map hsp (k := b) (by rw [hpk.1]; exact Nat.lt_succ_of_le hb)
      refine at_L hpv.il (Int.natCast_nonneg _) (lt_big (Nat.lt_of_le_of_lt hb (Nat.lt_trans hi' (by decide)))) hx ?_
      walk_at "jx"
      refine j_slice ?_
      walk_at "jx"
      intro sl hslc
      refine ⟨subs_L (hpo3.il.le (PH.le_set hslc)), j_sliceL (hpo3.il.le (PH.le_set hslc)) PH.set_self (.int _ _) (.int _ _) .none (by decide) (le_line (by rw [List.length_cons, List.length_map, how.1]; decide)) fun sm hsm => ?_⟩
      rw [slice_own (by rw [List.length_map]; exact how.1) hi', ← List.map_take]
      walk_at "jx"
      have l4 := PH.le_trans (PH.le_set (o := { cls := .type "slice", data := .fields #[.int 1 _, .int ((i + 1 : Nat) : Int) t, .none] }) hslc) (PH.le_set (o := listOf ((o.take i).map (V tk)).toArray 0) hsm)
      refine at_L (hpo3.il.le l4) (Int.natCast_nonneg _) (lt_big hi1) hob2 ?_
      walk_at "jx"
      refine f_countOf O' PL.new.il (all_apart htk (fun c hc => how.2 c (List.mem_of_mem_take hc)) (Nat.le_trans hb (Nat.le_of_lt hi'))) fun tc H4 l5 => ?_
      replace l4 := PH.le_trans l4 l5
      rw [count_int]
      refine at_S (Int.natCast_nonneg _) (Int.lt_trans (Int.ofNat_lt.mpr hct) (by decide)) (abcde_at hct) fun _ => ?_
      refine j_addS (le_line (by rw [mkS_len]; have := hpk.2 b; omega)) fun tz => ?_
      rw [mkS_snoc]
      walk_at "jx"
      refine j_append (hpv.le l4) (le_line (by rw [items_len hsp, List.length_map, hpk.1]; omega)) fun k1 => ?_
      replace hsp := hsp.snoc (mkS ((pathsTo o i).getD b [] ++ [97 + (o.take i).count b])) tz
      rw [← List.map_singleton (f := mkS), ← List.map_append, ← hpc] at hsp
      have g5 : H1.le (H4.set pa (listOf (pv ++ [Value.str (mkS ((pathsTo o i).getD b [] ++ [97 + (o.take i).count b])) tz]).toArray k1)) := le_setN (PH.le_trans hle (PH.le_trans hle3 l4)) (none_le hle hpa)
      have g6 : H'.le (H4.set pa (listOf (pv ++ [Value.str (mkS ((pathsTo o i).getD b [] ++ [97 + (o.take i).count b])) tz]).toArray k1)) := le_setN (PH.le_trans hle3 l4) hpa
      replace hlv := (hlv.le l4).setO (o := listOf (pv ++ [Value.str (mkS ((pathsTo o i).getD b [] ++ [97 + (o.take i).count b])) tz]).toArray k1) (Ne.symm npa)
      have hpv' := PL.new (H := H4) (a := pa) (items := pv ++ [Value.str (mkS ((pathsTo o i).getD b [] ++ [97 + (o.take i).count b])) tz]) (n := k1)
      generalize pv ++ [Value.str (mkS ((pathsTo o i).getD b [] ++ [97 + (o.take i).count b])) tz] = pv' at hsp g5 g6 hlv hpv'
      generalize H4.set pa (listOf pv'.toArray k1) = H5 at g5 g6 hlv hpv'
      walk_at "jx"
      refine j_gmAppend hlv ?_
      walk_at "jx"
      obtain ⟨ty, hy⟩ := strs_map hsp (k := i + 1) (by rw [hpk1.1]; exact Nat.lt_succ_self _)
      refine at_L hpv'.il (Int.natCast_nonneg _) (lt_big hi1) hy ?_
      walk_at "jx"
      obtain ⟨refs, hrl, hr6, hra⟩ := hrows
      obtain ⟨x, ex, hrx⟩ := hra (i + 1) (Nat.succ_lt_succ hi')
      replace hrx : RowAt H5 x (xs.getD (i + 1) Str.empty).cps.toList := hrx.le g5
      obtain ⟨dx, _, _, _, _, _, _, _, hI, _⟩ := hrx
      refine at_L (hrl.le g5) (Int.natCast_nonneg _) (lt_big hi1) (by rw [Int.toNat_natCast]; exact ex) ?_
      refine j_getOwn O' hI (by k_is) (by k_is) (by k_is) (by k_is) (by rfl) (by rfl) ?_
      walk_at "jx"
      rw [show (2 : Int) = ((2 : Nat) : Int) from rfl, nat_fmod]
      refine at_S (Int.natCast_nonneg _) (Int.lt_trans (Int.ofNat_lt.mpr (Nat.mod_lt _ (by decide))) (by decide)) (LR_at _) fun _ => ?_
      refine j_addS (le_line (by rw [mkS_len]; have := hpk1.2 (i + 1); omega)) fun tw => ?_
      rw [mkS_snoc]
      walk_at "jx"
      refine j_append hlv (le_line (by rw [items_len hsl, List.length_map, linesTo_length]; omega)) fun k2 => ?_
      replace hsl := hsl.snoc (mkS ((pathsTo o (i + 1)).getD (i + 1) [] ++ [if (wsOf (xs.getD (i + 1) Str.empty).cps.toList).2.2.2 % 2 = 1 then 82 else 76])) tw
      rw [← List.map_singleton (f := mkS), ← List.map_append, ← hlc] at hsl
      walk_at "jx"
      exact hPn _ (.mk _ _ _ _ _ (le_setN g6 nla) (hpv'.setO npa) PL.new hsp hsl)
    · rintro _ ⟨H3, pv, lv, ok3, hle3, hpv, hlv, hsp, hsl⟩
      walk_at "jx"
      refine j_newTuple (le_line (by simp)) fun tp htp => ?_
      walk_at "jx"
      exact h tp pa pv la lv _ (PH.le_trans (PH.le_trans g1 hle) (PH.le_trans hle3 (PH.le_set htp))) TL.new (hpv.le (PH.le_set htp)) (hlv.le (PH.le_set htp)) (by rw [hls, ho]; exact hsp) (by rw [hls, ho]; exact hsl)
end
end Mine

namespace Mine
open PySem.StrLaws in
theorem occ_stay (s sub : Str) (hi : Nat) : ∀ (l : List Nat) (st : Array Nat × Nat), 1 ≤ st.fst.size → (forIn l st (occBody s sub hi 1)).run.fst = st.fst
  | [], st, _ => rfl
  | a :: l, st, h => by
    rw [List.forIn_cons]
    unfold occBody
    rw [if_neg (fun q => Nat.not_lt.mpr h q.1.1.1)]
    exact occ_stay s sub hi l _ h
open PySem.StrLaws in
theorem occ_here {s sub : Str} {lo hi : Nat} (h : lo + sub.length ≤ hi) (h2 : Builtin.Str.subAt s sub lo = true) : Builtin.Str.occurrences s sub lo hi 1 = [lo] := by
  rw [occ_eq, show hi + 1 - lo = (hi - lo) + 1 from by omega, List.range'_succ, List.forIn_cons]
  have e : occBody s sub hi 1 lo ((#[] : Array Nat), lo) = pure (ForInStep.yield (#[lo], lo + sub.length)) := by
    unfold occBody
    rw [if_pos ⟨⟨⟨Nat.lt_succ_self 0, Nat.le_refl _⟩, h⟩, h2⟩]
    rfl
  rw [e]
  exact congrArg Array.toList (occ_stay s sub hi _ (#[lo], lo + sub.length) (Nat.le_refl _))
theorem find_empty {l : Str} {i j : Nat} (h : i ≤ j) (hj : j ≤ l.length) : find4 l Str.empty (i : Int) (j : Int) = (i : Int) := by
  have e1 : ∀ k : Nat, fromIndex l.length (k : Int) = k := fun k => by unfold fromIndex; rw [if_neg (by omega)]; omega
  unfold find4
  rw [e1, e1, Nat.min_eq_left hj, occ_here (by show i + 0 ≤ j; exact h) (by
    unfold Builtin.Str.subAt
    rw [show i + Str.empty.length = i from rfl]
    rw [Array.extract_eq_empty_of_le (Nat.min_le_left _ _)]; rfl)]
section
variable {C : Cx} {σ : Sg} {n : Nat}
/-- what the match looks at: one piece before or behind the dots -/
def DotOk (want : Str) (a b : Str) : Prop := want.length ≤ 10 ∧ a.length ≤ 10 ∧ b.length ≤ 10 ∧ Txt.split want (Str.ofString "...") = [a, b] ∧ (Builtin.Str.occurrences want (Str.ofString "...") 0 want.length 1).isEmpty = false ∧
  (Builtin.Str.partsBetween want (Builtin.Str.occurrences want (Str.ofString "...") 0 want.length (want.length + 1)) 3).length ≤ 10
theorem starts_le {x y : Str} (h : Txt.startswith x y = true) : y.length ≤ x.length := by
  unfold Txt.startswith at h
  have := of_decide_eq_true (Bool.and_eq_true_iff.mp h).1
  omega
theorem ends_le {x y : Str} (h : Txt.endswith x y = true) : y.length ≤ x.length := by
  unfold Txt.endswith at h
  have := of_decide_eq_true (Bool.and_eq_true_iff.mp h).1
  omega
theorem last_at {pre : List Value} {x : Value} : (pre ++ [x])[((-1 : Int) + (pre ++ [x]).length).toNat]? = some x := by
  have e : ((-1 : Int) + (pre ++ [x]).length).toNat = pre.length := by simp; omega
  rw [e]; simp
theorem len_true {x : Str} (h : x.length ≠ 0) : ((x.length : Int) != 0) = true := by simpa using h
/-- after the first and after the second question of the match -/
inductive EllA (H : PH) (res : Bool) (b l : Str) (tb : Tok) (want l' : Value) (a : Str) (ta : Tok) (wl : Addr) : Flow → Sg → Prop
  | no (vs : List (Option Value)) (H' : PH) : H.le H' → res = false → EllA H res b l tb want l' a ta wl (.ret (.bool false)) ⟨vs, H'⟩
  | on (H' : PH) (pre : List Value) (ts te : Tok) (ow : Option Value) : H.le H' → PL H' wl (pre ++ [.str b tb]) → pre.length ≤ 1 → (a.length ≠ 0 → Txt.startswith l a = true ∧ pre = []) → (a.length = 0 → pre = [.str a ta]) →
    EllA H res b l tb want l' a ta wl .next ⟨[some want, some l', some (.ref wl), some (.int (a.length : Nat) ts), some (.int (l.length : Nat) te), ow], H'⟩
inductive EllB (H : PH) (res : Bool) (l : Str) (want l' : Value) (a : Str) (wl : Addr) (ts : Tok) : Flow → Sg → Prop
  | no (vs : List (Option Value)) (H' : PH) : H.le H' → res = false → EllB H res l want l' a wl ts (.ret (.bool false)) ⟨vs, H'⟩
  | on (H' : PH) (tt : Tok) (e : Nat) (te : Tok) (ow : Option Value) : H.le H' → PL H' wl [.str Str.empty tt] → a.length ≤ e → e ≤ l.length → res = true → EllB H res l want l' a wl ts .next ⟨[some want, some l', some (.ref wl), some (.int (a.length : Nat) ts), some (.int (e : Nat) te), ow], H'⟩
inductive EllI (H : PH) (want l' : Value) (wl : Addr) (tt : Tok) (k e : Int) (te : Tok) : Nat → Sg → Prop
  | mk (i : Nat) (H' : PH) (ts : Tok) (ow : Option Value) : H.le H' → PL H' wl [.str Str.empty tt] → EllI H want l' wl tt k e te i ⟨[some want, some l', some (.ref wl), some (.int k ts), some (.int e te), ow], H'⟩
theorem EllI.il {H : PH} {want l' : Value} {wl : Addr} {tt : Tok} {k e : Int} {te : Tok} {i : Nat} {σ : Sg} (h : EllI H want l' wl tt k e te i σ) : IL σ.H wl [.str Str.empty tt] := by
  cases h with | mk _ _ _ _ h => exact h.il
theorem f_ell {want a b l : Str} {t u : Tok} {vs : List (Option Value)} {H : PH} {R : Value → Sg → Prop} (O : Ok C (n + 1)) (hp : DotOk want a b) (hl : l.length ≤ 10) (hab : (a.length ≠ 0 ∧ b = Str.empty) ∨ (a = Str.empty ∧ b.length ≠ 0))
    (h : ∀ H', H.le H' → R (.bool (if a.length = 0 then Txt.endswith l b else Txt.startswith l a)) ⟨vs, H'⟩) : J C (PySem.call (.ref 94) [.str want t, .str l u]) ⟨vs, H⟩ R := by
  refine j_call (rest := [Str.ofString "ws", Str.ofString "startpos", Str.ofString "endpos", Str.ofString "w"]) [Str.ofString "want", Str.ofString "got", Str.ofString "ws", Str.ofString "startpos", Str.ofString "endpos", Str.ofString "w"] [some (.str want t), some (.str l u), none, none, none, none] O (by k_is) (by k_is) (by rfl) (by rfl) (locs rfl) (by rfl) (by rfl) (by decide) (by decide) rfl rfl rfl fun A' base' L' st' O' => ?_
  obtain ⟨h1, h2, h3, h4, h5, h6⟩ := hp
  walk_at "jx"
  refine j_if ?_
  walk_at "jx"
  refine j_notInS ?_
  rw [h5]
  refine j_truthyBool ⟨(fun hc => nomatch hc), fun _ => ?_⟩
  walk_at "jx"
  refine j_split (by rfl) (le_line (Nat.le_trans h1 (by decide))) (le_line (Nat.le_trans h6 (by decide))) fun wl items hwl hst => ?_
  rw [h4] at hst
  obtain ⟨ps, rfl, hps⟩ := hst
  obtain ⟨ta, tb, rfl⟩ : ∃ ta tb, ps = [(a, ta), (b, tb)] := by
    rcases ps with _ | ⟨⟨a', ta⟩, _ | ⟨⟨b', tb⟩, _ | ⟨c', ps⟩⟩⟩
    · cases hps
    · cases hps
    · obtain rfl : a' = a := (List.cons.inj hps).1
      obtain rfl : b' = b := (List.cons.inj (List.cons.inj hps).2).1
      exact ⟨_, _, rfl⟩
    · exact absurd (congrArg List.length hps) (by simp)
  have hpl : PL (H.set wl (listOf (strValues [(a, ta), (b, tb)]).toArray 0)) wl [.str a ta, .str b tb] := PL.new
  have hle := PH.le_set (o := listOf (strValues [(a, ta), (b, tb)]).toArray 0) hwl
  generalize H.set wl (listOf (strValues [(a, ta), (b, tb)]).toArray 0) = H1 at hpl hle
  walk_at "jx"
  refine j_lenL hpl.il (by show ((2 : Nat) : Int) < 2 ^ 63; decide) fun _ => ?_
  walk_at "jx"
  refine ⟨rfl, ?_⟩
  walk_at "jx"
  refine j_setTupS (names := [Str.ofString "startpos", Str.ofString "endpos"]) (by rfl) ?_ (by rfl)
  walk_at "jx"
  refine j_lenS (by omega) fun _ => ?_
  walk_at "jx"
  refine j_newTuple (le_line (by simp)) fun tp htp => ?_
  refine j_unpackItems O' TL.new.ti (by rfl) ?_
  refine j_gen (H₀ := H1) (PH.le_set htp) fun H2 h12 => ?_
  replace hle := PH.le_trans hle h12
  replace hpl := hpl.le h12
  show J _ (assignInOrder [bindName _ (Str.ofString "endpos"), bindName _ (Str.ofString "startpos")] [_, _]) _ _
  walk_at "jx"
  refine at_L hpl.il (by decide) (by decide) rfl ?_
  walk_at "jx"
  refine j_mono (R := EllA H (if a.length = 0 then Txt.endswith l b else Txt.startswith l a) b l tb (.str want t) (.str l u) a ta wl) ?_ ?_
  · refine j_if ?_
    walk_at "jx"
    refine j_truthyS (by omega) ?_
    refine ⟨fun q => ?_, fun q => ?_⟩
    · have ha : a.length ≠ 0 := fun e => by rw [e] at q; cases q
      walk_at "js"
      refine ⟨fun q2 => ?_, fun q2 => ?_⟩
      · walk_at "jx"
        refine j_lenS (by omega) fun _ => ?_
        walk_at "jx"
        refine j_delItem (j := 0) hpl (by decide) (by rfl) (le_line (by simp)) fun k => ?_
        walk_at "jx"
        exact .on _ [] _ _ _ (le_setN hle hwl) PL.new (Nat.zero_le _) (fun _ => ⟨q2, rfl⟩) fun e => absurd e ha
      · walk_at "jx"
        exact .no _ _ hle (by rw [if_neg ha]; exact q2)
    · have ha : a.length = 0 := by
        have q' : ¬ ((a.length : Int) != 0) = true := by rw [q]; decide
        simpa using q'
      walk_at "jx"
      have e0 : (0 : Int) = ((a.length : Nat) : Int) := by rw [ha]; rfl
      rw [e0]
      exact .on _ [.str a ta] _ _ _ hle hpl (Nat.le_refl _) (fun e => absurd ha e) fun _ => rfl
  rintro _ _ (⟨vs3, H3, hle3, hres⟩ | ⟨H3, pre, ts3, te3, ow3, hle3, hpl3, hpre1, hpre2, hpre3⟩)
  · walk_at "jx"
    have := h H3 hle3
    rw [hres] at this
    exact this
  walk_at "jx"
  refine at_Lneg hpl3.il (by decide) (by simp; omega) (by decide) (x := .str b tb) last_at ?_
  walk_at "jx"
  refine j_mono (R := EllB H (if a.length = 0 then Txt.endswith l b else Txt.startswith l a) l (.str want t) (.str l u) a wl ts3) ?_ ?_
  · refine j_if ?_
    walk_at "jx"
    refine j_truthyS (by omega) ?_
    refine ⟨fun q => ?_, fun q => ?_⟩
    · rcases hab with ⟨_, rfl⟩ | ⟨rfl, hb⟩
      · exact absurd q (by decide)
      obtain rfl := hpre3 rfl
      walk_at "js"
      refine ⟨fun q2 => ?_, fun q2 => ?_⟩
      · walk_at "jx"
        refine j_lenS (by omega) fun _ => ?_
        refine j_isubI fun _ => ?_
        have hbl := ends_le q2
        rw [← Int.ofNat_sub hbl]
        walk_at "jx"
        refine j_delItem (j := 1) hpl3 (by decide) (by rfl) (le_line (by simp)) fun k => ?_
        walk_at "jx"
        exact .on _ _ _ _ _ (le_setN hle3 hwl) PL.new (Nat.zero_le _) (Nat.sub_le _ _) ((if_pos (show Str.empty.length = 0 from rfl)).trans q2)
      · walk_at "jx"
        exact .no _ _ hle3 ((if_pos (show Str.empty.length = 0 from rfl)).trans q2)
    · rcases hab with ⟨ha, rfl⟩ | ⟨_, hb⟩
      · obtain ⟨q3, rfl⟩ := hpre2 ha
        walk_at "jx"
        exact .on _ _ _ _ _ hle3 hpl3 (starts_le q3) (Nat.le_refl _) (by rw [if_neg ha]; exact q3)
      · exact absurd (len_true hb) (by rw [q]; decide)
  rintro _ _ (⟨vs4, H4, hle4, hres⟩ | ⟨H4, tt, e, te4, ow4, hle4, hpl4, he1, he2, hres⟩)
  · walk_at "jx"
    have := h H4 hle4
    rw [hres] at this
    exact this
  rw [hres] at h
  walk_at "js"
  refine ⟨fun q => absurd (of_decide_eq_true q) (by omega), fun _ => ?_⟩
  walk_at "jx"
  refine j_iterList O' hpl4.il fun it F hF hIt => ?_
  refine forAt_iterP (iter_list O') hF hIt (EllI H (.str want t) (.str l u) wl tt (a.length : Nat) (e : Nat) te4) (.mk _ _ _ _ hle4 hpl4) (fun _ _ h => h.il) ?_ ?_
  · rintro i _ v hi' ⟨H5, ts5, ow5, hle5, hpl5⟩ hv P hPn hPc hPb hPr
    obtain rfl : i = 0 := Nat.le_zero.mp (Nat.le_of_lt_succ hi')
    cases hv
    walk_at "jx"
    rw [find_empty he1 he2]
    walk_at "js"
    refine ⟨fun q => absurd (of_decide_eq_true q) (by omega), fun _ => ?_⟩
    walk_at "jx"
    refine j_lenS (by decide) fun _ => ?_
    refine j_iaddI fun _ => ?_
    walk_at "jx"
    exact hPn _ (.mk _ _ _ _ hle5 hpl5)
  · rintro _ ⟨H5, ts5, ow5, hle5, hpl5⟩
    walk_at "jx"
    exact h _ hle5
end
end Mine

namespace Mine
def ldots : Str := Str.ofString "..."
/-- what goes with the row: the rows whose line opens with the path -/
def goneTo (ps ls : List (List Nat)) (k : Nat) : Nat → Int
  | 0 => 0
  | i + 1 => if Txt.startswith (mkS (ls.getD (i + 1) [])) (mkS (ps.getD k [])) then Builtin.bitOr (goneTo ps ls k i) (1 * 2 ^ (i + 1)) else goneTo ps ls k i
def mineOf (ls : List (List Nat)) (k : Nat) : Bool := Txt.endswith (mkS (ls.getD k [])) (Str.ofString "L")
def theirsOf (ls : List (List Nat)) (k : Nat) : Bool := Txt.endswith (mkS (ls.getD k [])) (Str.ofString "R")
/-- the page's paths and lines may be matched -/
def PageOk (ps ls : List (List Nat)) : Prop := ps.length = 6 ∧ ls.length = 6 ∧ (∀ k, 1 ≤ k → k < 6 → (ps.getD k []).length ≠ 0 ∧ DotOk (mkS (ps.getD k []) ++ ldots) (mkS (ps.getD k [])) Str.empty) ∧ ∀ k, (ls.getD k []).length ≤ 10
theorem dots_L : DotOk (Str.ofString "...L") Str.empty (Str.ofString "L") := by
  refine ⟨by decide, by decide, by decide, ?_, ?_, ?_⟩ <;> decide +kernel
theorem dots_R : DotOk (Str.ofString "...R") Str.empty (Str.ofString "R") := by
  refine ⟨by decide, by decide, by decide, ?_, ?_, ?_⟩ <;> decide +kernel
/-- a row of the list of cuts -/
def CutAt (H : PH) (v : Value) (c : Cut) : Prop := ∃ a t u, v = .ref a ∧ TL H a [.int c.1 t, .int c.2.1 u, .bool c.2.2.1, .bool c.2.2.2]
theorem CutAt.le {H H' : PH} {v : Value} {c : Cut} (h : CutAt H v c) (l : H.le H') : CutAt H' v c := let ⟨a, t, u, e, r⟩ := h; ⟨a, t, u, e, r.le l⟩
inductive CutsAt (H : PH) : List Value → List Cut → Prop
  | nil : CutsAt H [] []
  | snoc {vs cs v c} : CutsAt H vs cs → CutAt H v c → CutsAt H (vs ++ [v]) (cs ++ [c])
theorem CutsAt.le {H H' : PH} {vs : List Value} {cs : List Cut} (h : CutsAt H vs cs) (l : H.le H') : CutsAt H' vs cs := by
  induction h with
  | nil => exact .nil
  | snoc _ hc ih => exact .snoc ih (hc.le l)
theorem CutsAt.length {H : PH} {vs : List Value} {cs : List Cut} (h : CutsAt H vs cs) : vs.length = cs.length := by
  induction h with
  | nil => rfl
  | snoc _ _ ih => rw [List.length_append, List.length_append, ih]; rfl
theorem TL.setL {H : PH} {a b : Addr} {items bs : List Value} {o : Obj} (h : TL H a items) (hb : PL H b bs) : TL (H.set b o) a items := by
  obtain ⟨n, e⟩ := h
  obtain ⟨m, e2⟩ := hb
  exact ⟨n, by rw [PH.set_ne (fun q => by rw [q, e2] at e; exact absurd (show ("list" : String) = "tuple" from Value.type.inj (congrArg Obj.cls (Option.some.inj e))) (by decide))]; exact e⟩
theorem CutsAt.setL {H : PH} {vs bs : List Value} {cs : List Cut} {b : Addr} {o : Obj} (h : CutsAt H vs cs) (hb : PL H b bs) : CutsAt (H.set b o) vs cs := by
  induction h with
  | nil => exact .nil
  | snoc _ hc ih => exact .snoc ih (let ⟨a, t, u, e, r⟩ := hc; ⟨a, t, u, e, r.setL hb⟩)
def cutsTo (ps ls : List (List Nat)) : Nat → List Cut
  | 0 => []
  | i + 1 => cutsTo ps ls i ++ [(((i + 1 : Nat) : Int), goneTo ps ls (i + 1) 5, mineOf ls (i + 1), theirsOf ls (i + 1))]
theorem cutsTo_length {ps ls : List (List Nat)} : ∀ {i : Nat}, (cutsTo ps ls i).length = i
  | 0 => rfl
  | i + 1 => by show (cutsTo ps ls i ++ [_]).length = _; rw [List.length_append, cutsTo_length]; rfl
section
variable {C : Cx} {σ : Sg} {n : Nat}
theorem f_cuts {pa la : Addr} {pv lv : List Value} {ps ls : List (List Nat)} {vs : List (Option Value)} {H : PH} {R : Value → Sg → Prop} (O : Ok C (n + 2)) (hp : IL H pa pv) (hl : IL H la lv) (hps : StrsAre' pv (ps.map mkS)) (hls : StrsAre' lv (ls.map mkS)) (hok : PageOk ps ls)
    (h : ∀ ca cv H', H.le H' → PL H' ca cv → CutsAt H' cv (cutsTo ps ls 5) → R (.ref ca) ⟨vs, H'⟩) : J C (PySem.call (.ref 218) [.ref pa, .ref la]) ⟨vs, H⟩ R := by
  refine j_call (rest := [Str.ofString "cuts", Str.ofString "k", Str.ofString "gone", Str.ofString "m"]) [Str.ofString "paths", Str.ofString "lines", Str.ofString "cuts", Str.ofString "k", Str.ofString "gone", Str.ofString "m"] [some (.ref pa), some (.ref la), none, none, none, none] O (by k_is) (by k_is) (by rfl) (by rfl) (locs rfl) (by rfl) (by rfl) (by decide) (by decide) rfl rfl rfl fun A' base' L' st' O' => ?_
  obtain ⟨h6, h7, hpk, hlk⟩ := hok
  walk_at "jx"
  refine j_newList (le_line (by simp)) fun ca hca => ?_
  walk_at "jx"
  refine j_range2 fun r _ _ _ hr => ?_
  refine j_iterRange O' (N := 5) PH.set_self (by decide) (by decide) fun it F hF hIt => ?_
  refine forAt_iter (iter_range O') hF hIt (fun i σ' => H.le σ'.H ∧ ∃ cv ok og om, PL σ'.H ca cv ∧ CutsAt σ'.H cv (cutsTo ps ls i) ∧ σ'.vs = [some (.ref pa), some (.ref la), some (.ref ca), ok, og, om]) ?_ (fun _ _ _ => trivial) ?_ ?_
  · exact ⟨PH.le_trans (PH.le_set hca) (PH.le_set hr), _, _, _, _, PL.new.le (PH.le_set hr), .nil, rfl⟩
  · rintro i ⟨vs', H'⟩ v hi' ⟨hle, cv, ok, og, om, hcv, hcs, hvs⟩ ⟨t, rfl⟩
    dsimp only at hvs hle hcv; subst hvs
    rw [show (1 : Int) + 1 * (i : Int) = ((i + 1 : Nat) : Int) from by omega]
    have hi6 : i + 1 < 6 := Nat.succ_lt_succ hi'
    have hkb : (i + 1 : Nat) < 1000 := Nat.lt_trans hi6 (by decide)
    obtain ⟨hpn, hpd⟩ := hpk (i + 1) (Nat.succ_pos i) hi6
    obtain ⟨tp, hpi⟩ := strs_map hps (k := i + 1) (by rw [h6]; exact hi6)
    walk_at "jx"
    refine j_range2 fun r2 _ _ _ hr2 => ?_
    refine j_iterRange O' (N := 5) PH.set_self (by decide) (by decide) fun it2 F2 hF2 hIt2 => ?_
    refine forAt_iter (iter_range O') hF2 hIt2 (fun j σ' => H'.le σ'.H ∧ ∃ tg om, σ'.vs = [some (.ref pa), some (.ref la), some (.ref ca), some (.int ((i + 1 : Nat) : Int) t), some (.int (goneTo ps ls (i + 1) j) tg), om]) ?_ (fun _ _ _ => trivial) ?_ ?_
    · exact ⟨PH.le_set hr2, _, _, rfl⟩
    · rintro j ⟨vs', H2⟩ v hj' ⟨hle2, tg, om2, hvs⟩ ⟨t2, rfl⟩
      dsimp only at hvs hle2; subst hvs
      rw [show (1 : Int) + 1 * (j : Int) = ((j + 1 : Nat) : Int) from by omega]
      have hj6 : j + 1 < 6 := Nat.succ_lt_succ hj'
      obtain ⟨tl, hli⟩ := strs_map hls (k := j + 1) (by rw [h7]; exact hj6)
      have hgo : goneTo ps ls (i + 1) (j + 1) = if Txt.startswith (mkS (ls.getD (j + 1) [])) (mkS (ps.getD (i + 1) [])) then Builtin.bitOr (goneTo ps ls (i + 1) j) (1 * 2 ^ (j + 1)) else goneTo ps ls (i + 1) j := rfl
      rw [hgo]
      walk_at "jx"
      refine j_if ?_
      walk_at "jx"
      refine at_L (hp.le (PH.le_trans hle hle2)) (Int.natCast_nonneg _) (lt_big hkb) hpi ?_
      walk_at "jx"
      refine j_addS (le_line (Nat.le_trans hpd.1 (by decide))) fun _ => ?_
      walk_at "jx"
      refine at_L (hl.le (PH.le_trans hle hle2)) (Int.natCast_nonneg _) (lt_big (Nat.lt_trans hj6 (by decide))) hli ?_
      walk_at "jx"
      refine f_ell O' hpd (by have := hlk (j + 1); exact this) (.inl ⟨hpn, rfl⟩) fun H3 h3 => ?_
      rw [if_neg (show ¬ (mkS (ps.getD (i + 1) [])).length = 0 from hpn)]
      walk_at "jx"
      cases Txt.startswith (mkS (ls.getD (j + 1) [])) (mkS (ps.getD (i + 1) [])) with
      | true =>
        refine ⟨fun _ => ?_, (fun hc => nomatch hc)⟩
        walk_at "jx"
        refine f_lshift O' (Int.natCast_nonneg _) (Int.le_trans (Int.ofNat_le.mpr (Nat.le_of_lt hj6)) (by decide)) (by decide) fun _ => ?_
        rw [Int.toNat_natCast]
        walk_at "jx"
        exact ⟨PH.le_trans hle2 h3, _, _, rfl⟩
      | false =>
        refine ⟨(fun hc => nomatch hc), fun _ => ?_⟩
        walk_at "jx"
        exact ⟨PH.le_trans hle2 h3, _, _, rfl⟩
    · rintro ⟨vs', H2⟩ ⟨hle2, tg, om2, hvs⟩
      dsimp only at hvs hle2; subst hvs
      walk_at "jx"
      obtain ⟨tl, hli⟩ := strs_map hls (k := i + 1) (by rw [h7]; exact hi6)
      refine j_gmAppend (hcv.le hle2) ?_
      walk_at "jx"
      refine at_L (hl.le (PH.le_trans hle hle2)) (Int.natCast_nonneg _) (lt_big hkb) hli ?_
      walk_at "jx"
      refine f_ell O' dots_L (by have := hlk (i + 1); exact this) (.inr ⟨rfl, by decide⟩) fun H3 h3 => ?_
      rw [if_pos (show Str.empty.length = 0 from rfl)]
      walk_at "jx"
      refine at_L (hl.le (PH.le_trans hle (PH.le_trans hle2 h3))) (Int.natCast_nonneg _) (lt_big hkb) hli ?_
      walk_at "jx"
      refine f_ell O' dots_R (by have := hlk (i + 1); exact this) (.inr ⟨rfl, by decide⟩) fun H4 h4 => ?_
      rw [if_pos (show Str.empty.length = 0 from rfl)]
      walk_at "jx"
      refine j_newTuple (le_line (by simp)) fun ta hta => ?_
      walk_at "jx"
      have l4 := PH.le_trans hle2 (PH.le_trans h3 h4)
      have l5 := PH.le_trans l4 (PH.le_set (o := tupOf [.int ((i + 1 : Nat) : Int) t, .int (goneTo ps ls (i + 1) 5) tg, .bool (mineOf ls (i + 1)), .bool (theirsOf ls (i + 1))] 0) hta)
      refine j_append (hcv.le l5) (le_line (by rw [hcs.length, cutsTo_length]; omega)) fun k1 => ?_
      walk_at "jx"
      have hnew : CutAt (H4.set ta (tupOf [.int ((i + 1 : Nat) : Int) t, .int (goneTo ps ls (i + 1) 5) tg, .bool (mineOf ls (i + 1)), .bool (theirsOf ls (i + 1))] 0)) (.ref ta) (((i + 1 : Nat) : Int), goneTo ps ls (i + 1) 5, mineOf ls (i + 1), theirsOf ls (i + 1)) := ⟨ta, t, tg, rfl, TL.new⟩
      exact ⟨le_setN (PH.le_trans hle l5) hca, _, _, _, _, PL.new, (CutsAt.snoc (hcs.le l5) hnew).setL (hcv.le l5), rfl⟩
  · rintro ⟨vs', H'⟩ ⟨hle, cv, ok, og, om, hcv, hcs, hvs⟩
    dsimp only at hvs hle hcv; subst hvs
    walk_at "jx"
    exact h ca cv _ hle hcv hcs
end
end Mine

namespace Mine
/-! zip, while what it handed out last is still held -/
abbrev zipHeld (TI TO T : Addr) (b : Bool) : Obj := { cls := .type "zip", dict := none, data := .fields #[rawInt T, .bool b, .bool false, .ref TI, .ref TO], slots := #[] }
section
variable {prog : Program} {w : World} {A : Around} {E : Value → Shared → Prop} {s : Shared}
theorem load_alive {α : Type} {a : Addr} {o : Obj} {f : Option Obj → Sem α} {Q : α → Shared → Prop} (h : s.heap.get? a = some o) (hf : wpAny (model prog w) A (f (some o)) Q E s) : wpAny (model prog w) A (loadIfAlive a >>= f) Q E s := by
  refine wpAny_bind fun Γ p hΓ => ?_
  show Sem.wp _ Γ (Sem.loadIfAlive a Sem.pure) _ _ p s
  rw [Sem.wp, Sem.wp, h]
  exact hf
theorem zip_free {z TI TO T : Addr} {b : Bool} {o : Obj} {Q : Bool → Shared → Prop} (hz : s.heap.get? z = some (zipHeld TI TO T b)) (hT : s.heap.get? T = some o)
    (h : ∀ h', h'.get? z = some (zipHeld TI TO T true) → (∀ c ob, c ≠ z → s.heap.get? c = some ob → h'.get? c = some ob) → h'.objs.size = s.heap.objs.size → Q false { s with heap := h' }) : wpAny (model prog w) A (Builtin.SmallTypes.ownedTupleIsFree (.ref z)) Q E s := by
  unfold Builtin.SmallTypes.ownedTupleIsFree
  refine wpAny_bind (wpAny_field hz rfl (x := rawInt T) rfl ?_)
  show wpAny _ _ (loadIfAlive ((T : Int).toNat) >>= _) _ _ _
  rw [Int.toNat_natCast]
  refine load_alive hT ?_
  rw [if_neg (by simp)]
  refine wpAny_bind (wpAny_field hz rfl (x := .bool b) rfl ?_)
  cases b with
  | true =>
    rw [if_neg (by decide)]
    exact wpAny_pure (h s.heap hz (fun _ _ _ e => e) rfl)
  | false =>
    rw [if_pos (by decide)]
    refine wpAny_bind (wpAny_setField_rec hz (by simp) fun h₁ hz₁ hs₁ => wpAny_pure (h h₁ hz₁ (fun c ob hc e => hs₁.extBut c ob hc e) hs₁.1))
theorem zip_next_held {z TI TO T i1 i2 l1 l2 : Addr} {b : Bool} {o : Obj} {k1 k2 : Nat} {xs ys : Array Value} {x y : Value} {Q : Value → Shared → Prop} (D : ZipApart z TI TO i1 i2 l1 l2) (hTi1 : T ≠ i1) (hTi2 : T ≠ i2)
    (hz : s.heap.get? z = some (zipHeld TI TO T b)) (hTI : IsPair s.heap TI (.ref i1) (.ref i2)) (hT : s.heap.get? T = some o)
    (h1 : s.heap.IsListIter i1 l1 k1) (h2 : s.heap.IsListIter i2 l2 k2) (hl1 : s.heap.IsList l1 xs) (hl2 : s.heap.IsList l2 ys) (hx : xs[k1]? = some x) (hy : ys[k2]? = some y)
    (hQ : ∀ h', h'.get? z = some (zipHeld TI TO T true) → h'.IsListIter i1 l1 (k1 + 1) → h'.IsListIter i2 l2 (k2 + 1) → IsPair h' s.heap.objs.size x y → h'.objs.size = s.heap.objs.size + 1 →
      (∀ c o, c ≠ z → c ≠ i1 → c ≠ i2 → s.heap.get? c = some o → h'.get? c = some o) → Q (.ref s.heap.objs.size) { s with heap := h' }) :
    wpAny (model prog w) A (Builtin.«zip.__next__» ⟨[.ref z], []⟩) (fun fin s' => ∃ v, fin = .done (.ret v) ∧ Q v s') E s := by
  show wpAny _ _ (field (.ref z) 2 >>= _) _ _ _
  refine wpAny_bind (wpAny_field hz rfl (x := .bool false) rfl ?_)
  show wpAny _ _ (field (.ref z) 3 >>= _) _ _ _
  refine wpAny_bind (wpAny_field hz rfl (x := .ref TI) rfl ?_)
  refine wpAny_bind (wpAny_seqItems hTI rfl ?_)
  show wpAny _ _ (Builtin.SmallTypes.ownedTupleIsFree (.ref z) >>= _) _ _ _
  refine wpAny_bind (zip_free hz hT fun h₁ hz₁ hk₁ hs₁ => ?_)
  simp only [Bool.false_eq_true, if_false]
  refine wpAny_bind ?_
  rw [← Array.forIn_toList]
  simp only [List.forIn_cons, List.forIn_nil]
  refine wpAny_bind (wpAny_bind (wpAny_holding ?_))
  show wpAny _ _ (Builtin.SmallTypes.nextOf (.ref i1) >>= _) _ _ _
  refine wpAny_bind (wpAny_nextOf_list_item (h1.at fun o e => hk₁ _ o D.i1z e) (hl1.at fun o e => hk₁ _ o D.l1z e) hx fun h₂ h1₂ hs₂ => wpAny_pure (wpAny_pure ?_))
  refine wpAny_bind (wpAny_bind (wpAny_holding ?_))
  show wpAny _ _ (Builtin.SmallTypes.nextOf (.ref i2) >>= _) _ _ _
  refine wpAny_bind (wpAny_nextOf_list_item ((h2.at fun o e => hk₁ _ o D.i2z e).extBut hs₂.extBut D.i12.symm) ((hl2.at fun o e => hk₁ _ o D.l2z e).extBut hs₂.extBut D.l2i1) hy fun h₃ h2₃ hs₃ => wpAny_pure (wpAny_pure (wpAny_pure ?_)))
  refine wpAny_bind (wpAny_newTuple ?_ (by show 2 ≤ sizeLine; rw [sizeLine_eq]; decide))
  have hsz : h₃.objs.size = s.heap.objs.size := by rw [hs₃.1, hs₂.1]; exact hs₁
  have up : ∀ c ob, c ≠ z → c ≠ i1 → c ≠ i2 → s.heap.get? c = some ob → h₃.get? c = some ob := fun c ob c1 c2 c3 e => hs₃.extBut _ _ c3 (hs₂.extBut _ _ c2 (hk₁ _ _ c1 e))
  have up2 : ∀ c ob, h₃.get? c = some ob → (h₃.push { cls := .type "tuple", data := .seq #[x, y] }).get? c = some ob := fun c ob e => Heap.get?_push_of_some _ e
  refine wpAny_pure ⟨_, rfl, ?_⟩
  show Q (.ref h₃.objs.size) { s with heap := h₃.push { cls := .type "tuple", data := .seq #[x, y] } }
  have fin := hQ (h₃.push { cls := .type "tuple", data := .seq #[x, y] }) (up2 _ _ (hs₃.extBut _ _ D.i2z.symm (hs₂.extBut _ _ D.i1z.symm hz₁))) (((h1₂.extBut hs₃.extBut D.i12)).at fun o e => up2 _ o e) (h2₃.at fun o e => up2 _ o e)
    (by rw [← hsz]; exact Heap.get?_push_size _ rfl) (by rw [Heap.size_push, hsz]) fun c ob c1 c2 c3 e => up2 _ _ (up c ob c1 c2 c3 e)
  rw [hsz]
  exact fin
theorem zip_end_held {z TI TO T i1 i2 l1 l2 : Addr} {b : Bool} {o : Obj} {k1 : Nat} {xs : Array Value} {Q : Fin → Shared → Prop} (hh : A.handled = none) (D : ZipApart z TI TO i1 i2 l1 l2)
    (hz : s.heap.get? z = some (zipHeld TI TO T b)) (hTI : IsPair s.heap TI (.ref i1) (.ref i2)) (hT : s.heap.get? T = some o) (h1 : s.heap.IsListIter i1 l1 k1) (hl1 : s.heap.IsList l1 xs) (hx : xs[k1]? = none)
    (hE : ∀ h' e, (∀ c o, c ≠ z → c ≠ i1 → s.heap.get? c = some o → h'.get? c = some o) → (∃ o, h'.get? e = some o ∧ o.cls = .type "StopIteration") → E (.ref e) { s with heap := h' }) :
    wpAny (model prog w) A (Builtin.«zip.__next__» ⟨[.ref z], []⟩) Q E s := by
  show wpAny _ _ (field (.ref z) 2 >>= _) _ _ _
  refine wpAny_bind (wpAny_field hz rfl (x := .bool false) rfl ?_)
  show wpAny _ _ (field (.ref z) 3 >>= _) _ _ _
  refine wpAny_bind (wpAny_field hz rfl (x := .ref TI) rfl ?_)
  refine wpAny_bind (wpAny_seqItems hTI rfl ?_)
  show wpAny _ _ (Builtin.SmallTypes.ownedTupleIsFree (.ref z) >>= _) _ _ _
  refine wpAny_bind (zip_free hz hT fun h₁ hz₁ hk₁ hs₁ => ?_)
  simp only [Bool.false_eq_true, if_false]
  refine wpAny_bind ?_
  rw [← Array.forIn_toList]
  simp only [List.forIn_cons, List.forIn_nil]
  refine wpAny_bind (wpAny_bind (wpAny_holding ?_))
  show wpAny _ _ (Builtin.SmallTypes.nextOf (.ref i1) >>= _) _ _ _
  exact wpAny_bind (wpAny_nextOf_list_end hh (h1.at fun o e => hk₁ _ o D.i1z e) (hl1.at fun o e => hk₁ _ o D.l1z e) hx fun h₂ e hs₂ he => hE h₂ e (fun c ob c1 c2 e => hs₂ _ _ c2 (hk₁ _ _ c1 e)) he)
theorem pyNext_zip_held {z TI TO T i1 i2 l1 l2 : Addr} {b : Bool} {o : Obj} {k1 k2 : Nat} {xs ys : Array Value} {x y : Value} {Q : Option Value → Shared → Prop} (D : ZipApart z TI TO i1 i2 l1 l2) (hTi1 : T ≠ i1) (hTi2 : T ≠ i2)
    (hz : s.heap.get? z = some (zipHeld TI TO T b)) (hTI : IsPair s.heap TI (.ref i1) (.ref i2)) (hT : s.heap.get? T = some o)
    (h1 : s.heap.IsListIter i1 l1 k1) (h2 : s.heap.IsListIter i2 l2 k2) (hl1 : s.heap.IsList l1 xs) (hl2 : s.heap.IsList l2 ys) (hx : xs[k1]? = some x) (hy : ys[k2]? = some y)
    (hQ : ∀ h', h'.get? z = some (zipHeld TI TO T true) → h'.IsListIter i1 l1 (k1 + 1) → h'.IsListIter i2 l2 (k2 + 1) → IsPair h' s.heap.objs.size x y → h'.objs.size = s.heap.objs.size + 1 →
      (∀ c o, c ≠ z → c ≠ i1 → c ≠ i2 → s.heap.get? c = some o → h'.get? c = some o) → Q (some (.ref s.heap.objs.size)) { s with heap := h' }) :
    wpAny (model prog w) A (pyNext (.ref z)) Q E s := by
  have hTy : s.TypeIs (.ref z) "zip" := ⟨_, hz, rfl⟩
  unfold pyNext
  exact wpAny_bind (wpAny_attempt (wpAny_callSpecial?_slot (name := Str.ofString "__next__") hTy F.slot_zip_next
    (wpAny_call_entry F.slot_zip_next hTy F.entry_zip_next
      (zip_next_held D hTi1 hTi2 hz hTI hT h1 h2 hl1 hl2 hx hy fun h' a1 a2 a3 a4 a5 a6 => wpAny_pure (hQ h' a1 a2 a3 a4 a5 a6)) (F.args_zip_next_1 _))))
theorem pyNext_zip_held_end {z TI TO T i1 i2 l1 l2 : Addr} {b : Bool} {o : Obj} {k1 : Nat} {xs : Array Value} {Q : Option Value → Shared → Prop} (hh : A.handled = none) (D : ZipApart z TI TO i1 i2 l1 l2)
    (hz : s.heap.get? z = some (zipHeld TI TO T b)) (hTI : IsPair s.heap TI (.ref i1) (.ref i2)) (hT : s.heap.get? T = some o) (h1 : s.heap.IsListIter i1 l1 k1) (hl1 : s.heap.IsList l1 xs) (hx : xs[k1]? = none)
    (hQ : ∀ h', (∀ c o, c ≠ z → c ≠ i1 → s.heap.get? c = some o → h'.get? c = some o) → Q none { s with heap := h' }) : wpAny (model prog w) A (pyNext (.ref z)) Q E s := by
  have hTy : s.TypeIs (.ref z) "zip" := ⟨_, hz, rfl⟩
  unfold pyNext
  refine wpAny_bind (wpAny_attempt (wpAny_callSpecial?_slot (name := Str.ofString "__next__") hTy F.slot_zip_next
    (wpAny_call_entry F.slot_zip_next hTy F.entry_zip_next (zip_end_held hh D hz hTI hT h1 hl1 hx fun h' e hk he => ?_) (F.args_zip_next_1 _))))
  obtain ⟨o, ho, hc⟩ := he
  refine wpAny_bind (wpAny_isInstance (T := "StopIteration") (b := true) ⟨o, ho, hc⟩ isSubtype_stop ?_)
  exact wpAny_pure (hQ _ hk)
end
end Mine

namespace Mine
structure ZH (h : Heap) (z TI TO i1 i2 l1 l2 : Addr) (xs ys : Array Value) (i : Nat) : Prop where
  mark : IsZip h z TI TO .none ∨ ∃ T b x y, h.get? z = some (zipHeld TI TO T b) ∧ IsPair h T x y
  ti : IsPair h TI (.ref i1) (.ref i2)
  to : ∃ a b, IsPair h TO a b
  h1 : h.IsListIter i1 l1 i
  h2 : h.IsListIter i2 l2 i
  hl1 : h.IsList l1 xs
  hl2 : h.IsList l2 ys
theorem pair_ne_iter {h : Heap} {T i1 l1 : Addr} {k : Nat} {x y : Value} (hT : IsPair h T x y) (h1 : h.IsListIter i1 l1 k) : T ≠ i1 := fun q => by
  obtain ⟨o, e, c, _⟩ := h1
  rw [← q, hT] at e; cases e; exact absurd (show ("tuple" : String) = "list_iterator" from Value.type.inj c) (by decide)
theorem pair_ne_zip {h : Heap} {T z : Addr} {x y : Value} {o : Obj} (hT : IsPair h T x y) (hz : h.get? z = some o) (hc : o.cls = .type "zip") : T ≠ z := fun q => by
  rw [← q, hT] at hz; cases hz; exact absurd (show ("tuple" : String) = "zip" from Value.type.inj hc) (by decide)
theorem pair_ne_list {h : Heap} {T l : Addr} {x y : Value} {o : Obj} (hT : IsPair h T x y) (hl : h.get? l = some o) (hc : o.cls = .type "list") : T ≠ l := fun q => by
  rw [← q, hT] at hl; cases hl; exact absurd (show ("tuple" : String) = "list" from Value.type.inj hc) (by decide)
section
variable {prog : Program} {w : World} {A : Around} {E : Value → Shared → Prop} {s : Shared} {z TI TO i1 i2 l1 l2 : Addr} {xs ys : Array Value} {i : Nat}
theorem ZH.zip {h : Heap} (Z : ZH h z TI TO i1 i2 l1 l2 xs ys i) : ∃ o, h.get? z = some o ∧ o.cls = .type "zip" := by
  rcases Z.mark with h | ⟨T, b, _, _, h, _⟩
  · exact ⟨_, h, rfl⟩
  · exact ⟨_, h, rfl⟩
theorem ZH.next {x y : Value} {Q : Option Value → Shared → Prop} (Z : ZH s.heap z TI TO i1 i2 l1 l2 xs ys i) (D : ZipApart z TI TO i1 i2 l1 l2) (hx : xs[i]? = some x) (hy : ys[i]? = some y)
    (hQ : ∀ h', ZH h' z TI TO i1 i2 l1 l2 xs ys (i + 1) → IsPair h' s.heap.objs.size x y → h'.objs.size = s.heap.objs.size + 1 → (∀ c o, c ≠ z → c ≠ TO → c ≠ i1 → c ≠ i2 → s.heap.get? c = some o → h'.get? c = some o) → Q (some (.ref s.heap.objs.size)) { s with heap := h' }) :
    wpAny (model prog w) A (pyNext (.ref z)) Q E s := by
  obtain ⟨a, b, hTO⟩ := Z.to
  rcases Z.mark with hz | ⟨T, b1, x1, y1, hz, hT⟩
  · refine wpAny_pyNext_zip_item D hz Z.ti hTO Z.h1 Z.h2 Z.hl1 Z.hl2 hx hy fun h' a1 a2 a3 a4 a5 a6 a7 => hQ h' ⟨.inr ⟨_, false, _, _, a1, a5⟩, a7 _ _ D.TIz D.TITO D.TIi1 D.TIi2 Z.ti, ⟨_, _, a2⟩, a3, a4, Z.hl1.at fun o e => a7 _ o D.l1z D.l1TO D.l1i1 D.l1i2 e, Z.hl2.at fun o e => a7 _ o D.l2z D.l2TO D.l2i1 D.l2i2 e⟩ a5 a6 a7
  · have hTi1 := pair_ne_iter hT Z.h1
    have hTi2 := pair_ne_iter hT Z.h2
    have hTz := pair_ne_zip hT hz rfl
    exact pyNext_zip_held D hTi1 hTi2 hz Z.ti hT Z.h1 Z.h2 Z.hl1 Z.hl2 hx hy fun h' a1 a3 a4 a5 a6 a7 => hQ h' ⟨.inr ⟨_, true, _, _, a1, a7 _ _ hTz hTi1 hTi2 hT⟩, a7 _ _ D.TIz D.TIi1 D.TIi2 Z.ti, ⟨_, _, a7 _ _ D.TOz D.TOi1 D.TOi2 hTO⟩, a3, a4, Z.hl1.at fun o e => a7 _ o D.l1z D.l1i1 D.l1i2 e, Z.hl2.at fun o e => a7 _ o D.l2z D.l2i1 D.l2i2 e⟩ a5 a6 fun c o c1 c2 c3 c4 e => a7 c o c1 c3 c4 e
theorem ZH.stop {Q : Option Value → Shared → Prop} (hh : A.handled = none) (Z : ZH s.heap z TI TO i1 i2 l1 l2 xs ys i) (D : ZipApart z TI TO i1 i2 l1 l2) (hx : xs[i]? = none)
    (hQ : ∀ h', (∀ c o, c ≠ z → c ≠ TO → c ≠ i1 → c ≠ i2 → s.heap.get? c = some o → h'.get? c = some o) → Q none { s with heap := h' }) : wpAny (model prog w) A (pyNext (.ref z)) Q E s := by
  obtain ⟨a, b, hTO⟩ := Z.to
  rcases Z.mark with hz | ⟨T, b1, x1, y1, hz, hT⟩
  · exact wpAny_pyNext_zip_end hh D hz Z.ti hTO Z.h1 Z.h2 Z.hl1 Z.hl2 (.inl hx) hQ
  · exact pyNext_zip_held_end hh D hz Z.ti hT Z.h1 Z.hl1 hx fun h' a1 => hQ h' fun c o c1 c2 c3 c4 e => a1 c o c1 c3 e
theorem ZH.keep {h h' : Heap} {S : Addr} {oS : Obj} (Z : ZH h z TI TO i1 i2 l1 l2 xs ys i) (hS : h.get? S = some oS) (hc : oS.cls = .type "list") (n1 : l1 ≠ S) (n2 : l2 ≠ S) (hk : ∀ c o, c ≠ S → h.get? c = some o → h'.get? c = some o) : ZH h' z TI TO i1 i2 l1 l2 xs ys i := by
  obtain ⟨a, b, hTO⟩ := Z.to
  have nz : z ≠ S := fun q => by
    obtain ⟨o, e, c⟩ := Z.zip
    rw [q, hS] at e; cases e; rw [hc] at c; exact absurd (show ("list" : String) = "zip" from Value.type.inj c) (by decide)
  have ni : ∀ {i1 l1 : Addr}, h.IsListIter i1 l1 i → i1 ≠ S := fun h1 q => by
    obtain ⟨o, e, c, _⟩ := h1
    rw [q, hS] at e; cases e; rw [hc] at c; exact absurd (show ("list" : String) = "list_iterator" from Value.type.inj c) (by decide)
  refine ⟨?_, hk _ _ (pair_ne_list Z.ti hS hc) Z.ti, ⟨a, b, hk _ _ (pair_ne_list hTO hS hc) hTO⟩, Z.h1.at fun o e => hk _ o (ni Z.h1) e, Z.h2.at fun o e => hk _ o (ni Z.h2) e, Z.hl1.at fun o e => hk _ o n1 e, Z.hl2.at fun o e => hk _ o n2 e⟩
  rcases Z.mark with hz | ⟨T, b1, x1, y1, hz, hT⟩
  · exact .inl (hk _ _ nz hz)
  · exact .inr ⟨T, b1, x1, y1, hk _ _ nz hz, hk _ _ (pair_ne_list hT hS hc) hT⟩
theorem ZH.apart {h : Heap} {S : Addr} {oS : Obj} (Z : ZH h z TI TO i1 i2 l1 l2 xs ys i) (hS : h.get? S = some oS) (hc : oS.cls = .type "list") : S ≠ z ∧ S ≠ TO ∧ S ≠ i1 ∧ S ≠ i2 := by
  obtain ⟨a, b, hTO⟩ := Z.to
  have ni : ∀ {i1 l1 : Addr}, h.IsListIter i1 l1 i → S ≠ i1 := fun h1 q => by
    obtain ⟨o, e, c, _⟩ := h1
    rw [← q, hS] at e; cases e; rw [hc] at c; exact absurd (show ("list" : String) = "list_iterator" from Value.type.inj c) (by decide)
  refine ⟨fun q => ?_, Ne.symm (pair_ne_list hTO hS hc), ni Z.h1, ni Z.h2⟩
  obtain ⟨o, e, c⟩ := Z.zip
  rw [← q, hS] at e; cases e; rw [hc] at c; exact absurd (show ("list" : String) = "zip" from Value.type.inj c) (by decide)
/-- the pairs made so far -/
def Made2 (h : Heap) (B : Nat) (xs ys : Array Value) (acc : Array Value) (i : Nat) : Prop := acc.size = i ∧ ∀ j, j < i → ∃ T x y, acc[j]? = some (.ref T) ∧ xs[j]? = some x ∧ ys[j]? = some y ∧ IsPair h T x y ∧ B ≤ T
theorem Made2.keep {h h' : Heap} {B : Nat} {acc : Array Value} (M : Made2 h B xs ys acc i) (hk : ∀ (T : Nat) x y, B ≤ T → IsPair h T x y → IsPair h' T x y) : Made2 h' B xs ys acc i :=
  ⟨M.1, fun j hj => let ⟨T, x, y, e1, e2, e3, e4, e5⟩ := M.2 j hj; ⟨T, x, y, e1, e2, e3, hk T x y e5 e4, e5⟩⟩
theorem Made2.push {h : Heap} {B T : Nat} {acc : Array Value} {x y : Value} (M : Made2 h B xs ys acc i) (hT : IsPair h T x y) (hn : B ≤ T) (hx : xs[i]? = some x) (hy : ys[i]? = some y) : Made2 h B xs ys (acc.push (.ref T)) (i + 1) := by
  refine ⟨by rw [Array.size_push, M.1], fun j hj => ?_⟩
  rcases Nat.lt_or_ge j i with h1 | h1
  · obtain ⟨T', x', y', e1, e2⟩ := M.2 j h1
    exact ⟨T', x', y', by rw [Array.getElem?_push_lt (by rw [M.1]; exact h1)]; rw [Array.getElem?_eq_getElem (by rw [M.1]; exact h1)] at e1; exact e1, e2⟩
  · have : j = acc.size := by rw [M.1]; omega
    subst this
    rw [M.1]
    exact ⟨T, x, y, by rw [← M.1]; exact Array.getElem?_push_size, hx, hy, hT, hn⟩
theorem extend_zip {S : Addr} {N B : Nat} {R : Result → Shared → Prop} {res : Value} (hh : A.handled = none) (D : ZipApart z TI TO i1 i2 l1 l2) (hxs : xs.size = N) (hys : ys.size = N) (hN : N ≤ 1000) (n1 : l1 ≠ S) (n2 : l2 ≠ S) (hB : (TO : Nat) < B) :
    ∀ (m i : Nat) (s : Shared) (acc : Array Value) (c : Nat), i + m = N → B ≤ s.heap.objs.size → ZH s.heap z TI TO i1 i2 l1 l2 xs ys i → s.heap.get? S = some { cls := .type "list", dict := none, data := .seq acc c, slots := #[] } → Made2 s.heap B xs ys acc i →
      (∀ h' acc' c', h'.get? S = some { cls := .type "list", dict := none, data := .seq acc' c', slots := #[] } → Made2 h' B xs ys acc' N → (∀ b o, b ≠ z → b ≠ TO → b ≠ i1 → b ≠ i2 → b ≠ S → s.heap.get? b = some o → h'.get? b = some o) → R (.ok (.ret res)) { s with heap := h' }) →
      codeAny (model prog w) A (.builtin "list.extend.loop" ⟨[.ref S, .ref z, res], []⟩) R s := by
  intro m
  induction m with
  | zero =>
    intro i s acc c hi hBs Z hS M hR
    obtain rfl : i = N := hi
    obtain ⟨sz, sTO, s1, s2⟩ := Z.apart hS rfl
    refine codeAny_builtin F.entry_extend_loop ?_
    rw [Around.under_plainId F.plain_extend_loop _]
    show wpAny _ A.in1 (pyNext (.ref z) >>= _) _ _ s
    refine wpAny_bind (Z.stop hh D (by rw [Array.getElem?_eq_none]; omega) fun h' hk => ?_)
    obtain ⟨oz, hz, cz⟩ := Z.zip
    exact wpAny_pure (hR h' acc c (hk S _ sz sTO s1 s2 hS) (M.keep fun T x y n hT => hk T _ (pair_ne_zip hT hz cz) (Nat.ne_of_gt (Nat.lt_of_lt_of_le hB n)) (pair_ne_iter hT Z.h1) (pair_ne_iter hT Z.h2) hT) fun b o c1 c2 c3 c4 _ e => hk b o c1 c2 c3 c4 e)
  | succ m ih =>
    intro i s acc c hi hBs Z hS M hR
    obtain ⟨sz, sTO, s1, s2⟩ := Z.apart hS rfl
    obtain ⟨oz, hz, cz⟩ := Z.zip
    obtain ⟨a, b, hTO⟩ := Z.to
    have hlt : i < N := by omega
    have hx : xs[i]? = some xs[i] := Array.getElem?_eq_getElem (hxs ▸ hlt)
    have hy : ys[i]? = some ys[i] := Array.getElem?_eq_getElem (hys ▸ hlt)
    refine codeAny_builtin F.entry_extend_loop ?_
    rw [Around.under_plainId F.plain_extend_loop _]
    show wpAny _ A.in1 (pyNext (.ref z) >>= _) _ _ s
    refine wpAny_bind (Z.next D hx hy fun h' Z' hp hsz hk => ?_)
    have hS' := hk S _ sz sTO s1 s2 hS
    have hu : ∀ c o, c ≠ S → h'.get? c = some o → (h'.update S (Obj.mapSeq (·.push (.ref s.heap.objs.size)))).get? c = some o := fun c o hc e => (Heap.get?_update_other _ _ (Ne.symm hc)).trans e
    have M' : Made2 h' B xs ys (acc.push (.ref s.heap.objs.size)) (i + 1) := (M.keep fun T x y n hT => hk T _ (pair_ne_zip hT hz cz) (Nat.ne_of_gt (Nat.lt_of_lt_of_le hB n)) (pair_ne_iter hT Z.h1) (pair_ne_iter hT Z.h2) hT).push hp hBs hx hy
    show wpAny _ A.in1 (updateSeq S (·.push (.ref s.heap.objs.size)) >>= _) _ _ _
    refine wpAny_bind ?_
    refine wpAny_updateSeq hS' rfl (wpAny_pure ⟨plainId_quiet F.plain_extend_loop _, ih (i + 1) { s with heap := h'.update S (Obj.mapSeq (·.push (.ref s.heap.objs.size))) } (acc.push (.ref s.heap.objs.size)) _ (by omega) (by show B ≤ (h'.update S _).objs.size; rw [Heap.size_update, hsz]; omega) (Z'.keep hS' rfl n1 n2 hu) (Heap.get?_update_self _ hS' rfl) (M'.keep fun T x y _ hT => hu T _ (pair_ne_list hT hS' rfl) hT)
      fun h'' acc' c' a1 a2 a3 => hR h'' acc' c' a1 a2 fun b o c1 c2 c3 c4 c5 e => a3 b o c1 c2 c3 c4 c5 (hu b o c5 (hk b o c1 c2 c3 c4 e))⟩)
      (by rw [M.1, sizeLine_eq]; omega) (by show (acc.push _).size ≤ sizeLine + 1; rw [Array.size_push, M.1, sizeLine_eq]; omega)
end
end Mine

namespace Mine
theorem zip_no_len : typeLookup (.type "zip") "__len__" = pure none := by rw [typeLookup_type, builtinLookup_eq_fast]; kernel_rfl
theorem zip_no_hint : typeLookup (.type "zip") "__length_hint__" = pure none := by rw [typeLookup_type, builtinLookup_eq_fast]; kernel_rfl
section
variable {prog : Program} {w : World} {A : Around} {E : Value → Shared → Prop} {s : Shared} {z TI TO i1 i2 l1 l2 : Addr} {xs ys : Array Value} {N : Nat}
theorem ZH.lists {h : Heap} {i : Nat} (Z : ZH h z TI TO i1 i2 l1 l2 xs ys i) : l1 < h.objs.size ∧ l2 < h.objs.size := let ⟨_, e1, _⟩ := Z.hl1; let ⟨_, e2, _⟩ := Z.hl2; ⟨Heap.lt_size e1, Heap.lt_size e2⟩
theorem ZH.grow {h h' : Heap} {i : Nat} (Z : ZH h z TI TO i1 i2 l1 l2 xs ys i) (hk : ∀ b o, h.get? b = some o → h'.get? b = some o) : ZH h' z TI TO i1 i2 l1 l2 xs ys i :=
  ⟨Z.mark.imp (hk _ _) fun ⟨T, b, x, y, e1, e2⟩ => ⟨T, b, x, y, hk _ _ e1, hk _ _ e2⟩, hk _ _ Z.ti, let ⟨a, b, e⟩ := Z.to; ⟨a, b, hk _ _ e⟩, Z.h1.at fun o e => hk _ o e, Z.h2.at fun o e => hk _ o e, Z.hl1.at fun o e => hk _ o e, Z.hl2.at fun o e => hk _ o e⟩
theorem collect_zip {Q : List Value → Shared → Prop} (hh : A.handled = none) (D : ZipApart z TI TO i1 i2 l1 l2) (hz : IsZip s.heap z TI TO .none) (Z : ZH s.heap z TI TO i1 i2 l1 l2 xs ys 0) (hxs : xs.size = N) (hys : ys.size = N) (hN : N ≤ 1000)
    (hQ : ∀ h' acc, Made2 h' s.heap.objs.size xs ys acc N → (∀ b o, b ≠ z → b ≠ TO → b ≠ i1 → b ≠ i2 → s.heap.get? b = some o → h'.get? b = some o) → Q acc.toList { s with heap := h' }) : wpAny (model prog w) A (collect (.ref z)) Q E s := by
  have lz := Heap.lt_size hz
  have hSz : s.heap.objs.size ≠ z := Nat.ne_of_gt lz
  unfold collect
  refine wpAny_bind (wpAny_runValue (codeAny_builtin F.entry_proto_collect ?_))
  rw [Around.under_plainId F.plain_proto_collect _]
  show wpAny _ A.in1 (newList [] >>= fun l => again (.builtin "list.__iadd__" ⟨[l, .ref z], []⟩)) _ _ s
  refine wpAny_bind (wpAny_newObj_type ?_)
  refine wpAny_pure ⟨plainId_quiet F.plain_list_iadd _, codeAny_builtin F.entry_list_iadd ?_⟩
  rw [Around.under_plainId F.plain_list_iadd _]
  have hz₁ : (s.heap.push { cls := .type "list", data := .seq ([] : List Value).toArray }).get? z = some (zipObj TI TO .none) := Heap.get?_push_of_some _ hz
  have hT : ∀ h, h.get? z = some (zipObj TI TO .none) → Shared.TypeIs ({ s with heap := h } : Shared) (.ref z) "zip" := fun h e => ⟨_, e, rfl⟩
  show wpAny _ A.in1 (Builtin.List.listExtendWith (.ref s.heap.objs.size) (.ref z) (.ref s.heap.objs.size)) _ _ _
  unfold Builtin.List.listExtendWith
  refine wpAny_bind (wpAny_typeOf (hT _ hz₁) ?_)
  have h1 : Builtin.List.listSameRef (.ref s.heap.objs.size) (.ref z) = false := by simp [Builtin.List.listSameRef, hSz]
  have h2 : (Value.type "zip" == Value.type "list") = false := by decide
  have h3 : (Value.type "zip" == Value.type "tuple") = false := by decide
  simp only [h1, h2, h3, Bool.or_false, Bool.false_eq_true, if_false]
  refine wpAny_bind (wpAny_pyIter_zip hz₁ ?_)
  refine wpAny_bind (wpAny_holding ?_)
  unfold Builtin.List.listLengthHint
  refine wpAny_bind (wpAny_specialOf (hT _ hz₁) zip_no_len ?_)
  show wpAny _ A.in1 (specialOf (Value.ref z) (Str.ofString "__length_hint__") >>= _) _ _ _
  refine wpAny_bind (wpAny_specialOf (hT _ hz₁) zip_no_hint ?_)
  refine wpAny_pure ?_
  show wpAny _ A.in1 (rule "list.extend.makes-room" >>= fun _ => Builtin.List.listTouch (.ref s.heap.objs.size) >>= fun _ =>
    again (.builtin "list.extend.loop" ⟨[.ref s.heap.objs.size, .ref z, .ref s.heap.objs.size], []⟩)) _ _ _
  refine wpAny_bind (wpAny_rule ?_)
  have hS₁ : (s.heap.push { cls := .type "list", data := .seq ([] : List Value).toArray }).get? s.heap.objs.size = some { cls := .type "list", data := .seq ([] : List Value).toArray } := Heap.get?_push_size _ rfl
  refine wpAny_bind ?_
  show wpAny _ A.in1 (updateSeq s.heap.objs.size (·.push .none) >>= fun _ => updateSeq s.heap.objs.size (·.pop)) _ _ _
  refine wpAny_bind (wpAny_updateSeq hS₁ rfl ?_)
  have hS₂ := Heap.get?_update_self (Obj.mapSeq (·.push Value.none)) hS₁ rfl
  refine wpAny_updateSeq hS₂ rfl ?_
  have hS₃ := Heap.get?_update_self (Obj.mapSeq (·.pop)) hS₂ rfl
  have old : ∀ b o, s.heap.get? b = some o → (((s.heap.push { cls := .type "list", data := .seq ([] : List Value).toArray }).update s.heap.objs.size (Obj.mapSeq (·.push Value.none))).update s.heap.objs.size (Obj.mapSeq (·.pop))).get? b = some o :=
    fun b o e => (Heap.get?_update_other _ _ (Nat.ne_of_gt (Heap.lt_size e))).trans ((Heap.get?_update_other _ _ (Nat.ne_of_gt (Heap.lt_size e))).trans (Heap.get?_push_of_some _ e))
  obtain ⟨ll1, ll2⟩ := Z.lists
  refine wpAny_pure ⟨plainId_quiet F.plain_extend_loop _, extend_zip (N := N) (B := s.heap.objs.size) hh D hxs hys hN (Nat.ne_of_lt ll1) (Nat.ne_of_lt ll2) (let ⟨_, _, e⟩ := Z.to; Heap.lt_size e) N 0 { s with heap := _ } #[] _ (Nat.zero_add _) (by rw [Heap.size_update, Heap.size_update, Heap.size_push]; exact Nat.le_succ _) (Z.grow old) hS₃ ⟨rfl, fun j hj => absurd hj (Nat.not_lt_zero _)⟩ fun h' acc' c' hS' M hk => ?_⟩
  show wpAny _ A (load s.heap.objs.size >>= _) _ _ _
  refine wpAny_bind (wpAny_load hS' ?_)
  exact wpAny_pure (hQ h' acc' M fun b o c1 c2 c3 c4 e => hk b o c1 c2 c3 c4 (Nat.ne_of_lt (Heap.lt_size e)) (old b o e))
end
end Mine

namespace Mine
/-- a sort's questions, answered by a plain order; none if a row is asked for beyond n or against itself -/
def runOk {α : Type} (lt : Nat → Nat → Bool) (n : Nat) : KasT α → Option α
  | .ret a => some a
  | .ask i j k => if decide (i < n) && decide (j < n) && !(i == j) then runOk lt n (k (lt i j)) else none
theorem wp_of_run {α : Type} {cmp : Nat → Nat → (Bool → Shared → Prop) → Shared → Prop} {lt : Nat → Nat → Bool} {n : Nat} {P : Shared → Prop} {Q : α → Shared → Prop} {a : α}
    (hc : ∀ i j C s, i < n → j < n → i ≠ j → P s → (∀ s', P s' → C (lt i j) s') → cmp i j C s) : ∀ (t : KasT α) (s : Shared), P s → runOk lt n t = some a → (∀ s', P s' → Q a s') → t.kasWp cmp Q s
  | .ret b, s, hP, hr, hQ => by
    cases hr
    exact hQ s hP
  | .ask i j k, s, hP, hr, hQ => by
    unfold runOk at hr
    split at hr
    · rename_i c
      simp only [Bool.and_eq_true, decide_eq_true_eq, Bool.not_eq_true', beq_eq_false_iff_ne] at c
      exact hc i j _ s c.1.1 c.1.2 c.2 hP fun s' h' => wp_of_run hc _ s' h' hr hQ
    · cases hr
section
variable {prog : Program} {w : World} {A : Around} {E : Value → Shared → Prop} {s : Shared}
/-- pairs, the first of each an int -/
def Pairs (h : Heap) (vs : List Value) (ns : List Int) (ys : List Value) : Prop := vs.length = ns.length ∧ ∀ i, i < ns.length → ∃ T t y, vs[i]? = some (.ref T) ∧ ys[i]? = some y ∧ IsPair h T (.int (ns.getD i 0) t) y
theorem ask_pairs {vs : List Value} {ns : List Int} {ys : List Value} {i j : Nat} {C : Bool → Shared → Prop} (M : Pairs s.heap vs ns ys) (hi : i < ns.length) (hj : j < ns.length) (hne : ns.getD i 0 ≠ ns.getD j 0) (h : C (decide (ns.getD i 0 < ns.getD j 0)) s) :
    kas_ask prog w A (tuples' true) vs i j C s := by
  obtain ⟨T, t, y, e1, _, e2⟩ := M.2 i hi
  obtain ⟨U, u, x, f1, _, f2⟩ := M.2 j hj
  unfold kas_ask
  rw [List.getD_eq_getElem?_getD, e1, List.getD_eq_getElem?_getD, f1]
  refine kat_lt e2 rfl f2 rfl ?_
  refine kat_cons (wpAny_eqBool_int ?_)
  rw [show (ns.getD i 0 == ns.getD j 0) = false from beq_eq_false_iff_ne.mpr hne]
  exact kat_no (oneLt_int h)
theorem kat_of : ∀ {vs : List Value} {fs : List Value} {h : Heap}, vs.length = fs.length → (∀ i, i < fs.length → ∃ T y, vs[i]? = some (.ref T) ∧ ∃ f, fs[i]? = some f ∧ IsPair h T f y) → KatTups h vs fs
  | [], [], _, _, _ => .nil
  | [], _ :: _, _, hl, _ => by cases hl
  | _ :: _, [], _, hl, _ => by cases hl
  | v :: vs, f :: fs, h, hl, hM => by
    obtain ⟨T, y, e1, f', e2, e3⟩ := hM 0 (Nat.succ_pos _)
    cases e1; cases e2
    exact .cons e3 rfl rfl rfl (kat_of (Nat.succ.inj hl) fun i hi => hM (i + 1) (Nat.succ_lt_succ hi))
end
end Mine

namespace Mine
section
variable {C : Cx} {n : Nat}
theorem j_sortedZip {vs : List (Option Value)} {H F : PH} {z l1 l2 : Addr} {xs ys : List Value} {ns : List Int} {p : Array Nat} {R : Value → Sg → Prop} (O : Ok C n) (hl1 : IL H l1 xs) (hl2 : IL H l2 ys) (hd : Disj F H) (hS : ZipIt z l1 l2 0 F) (hi : IntsAre xs ns) (hlen : ys.length = ns.length) (h2 : 2 ≤ ns.length) (h64 : ns.length < 64)
    (hdis : ∀ i j, i < ns.length → j < ns.length → i ≠ j → ns.getD i 0 ≠ ns.getD j 0) (hrun : runOk (fun i j => decide (ns.getD i 0 < ns.getD j 0)) ns.length (kas_sort ns.length) = some p)
    (h : ∀ (D : Addr) (items : List Value) (H' : PH), H.le H' → PL H' D (p.toList.map fun i => items.getD i .none) → items.length = ns.length → (∀ i, i < ns.length → ∃ T t y, items[i]? = some (.ref T) ∧ ys[i]? = some y ∧ TL H' T [.int (ns.getD i 0) t, y]) → R (.ref D) ⟨vs, H'⟩) :
    J C (PySem.call (.builtin "sorted") [.ref z]) ⟨vs, H.both F⟩ R := by
  obtain ⟨TI, TO, i1, i2, Z⟩ := hS
  obtain ⟨a0, b0, hTO⟩ := Z.TO
  obtain ⟨o1, e1, c1, d1⟩ := Z.i1
  obtain ⟨o2, e2, c2, d2⟩ := Z.i2
  refine j_mk fun s Q hs q => ?_
  have g : ∀ {b o}, F b = some o → s.heap.get? b = some o := fun e => get_frame hs hd e
  have D : ZipApart z TI TO i1 i2 l1 l2 := ⟨Z.TIz, Z.TOz, Z.i1z, Z.i2z, Z.TITO, Z.TIi1, Z.TIi2, Z.TOi1, Z.TOi2, Z.i12, not_of_disj hl1 hd Z.z, not_of_disj hl1 hd hTO, not_of_disj hl1 hd e1, not_of_disj hl1 hd e2,
    not_of_disj hl2 hd Z.z, not_of_disj hl2 hd hTO, not_of_disj hl2 hd e1, not_of_disj hl2 hd e2⟩
  refine Calls.call_function_entry kind_sorted plain_sorted entry_sorted (args_sorted1 _) ?_
  unfold Builtin.«sorted»
  refine wpAny_bind (m := checkCount "sorted" 1 1 _) (wpAny_pure ?_)
  refine wpAny_bind (collect_zip (N := ns.length) O.hh D (g Z.z) ⟨.inl (g Z.z), g Z.TI, ⟨_, _, g hTO⟩, ⟨o1, g e1, c1, d1⟩, ⟨o2, g e2, c2, d2⟩, hs.isList (hl1.le le_both), hs.isList (hl2.le le_both)⟩ (by rw [List.size_toArray]; exact hi.length) (by rw [List.size_toArray]; exact hlen) (by omega) fun h1 acc M hk => ?_)
  have off : ∀ {b o}, F b = some o → H b = none := fun e => hd _ (by rw [e]; exact Option.some_ne_none _)
  have neF : ∀ {b c : Addr} {o : Obj}, F c = some o → F b = none → b ≠ c := fun e1 e2 q => by rw [q, e1] at e2; cases e2
  have st := step hs hd (X := fun b => if s.heap.objs.size ≤ (b : Nat) then h1.get? b else none) (F' := PH.nil) (h' := h1)
    (fun b o hb eb => hk b o (neF Z.z hb) (neF hTO hb) (neF e1 hb) (neF e2 hb) eb)
    (fun b o eb => by
      by_cases hb : s.heap.objs.size ≤ (b : Nat)
      · rw [if_pos hb] at eb; exact ⟨eb, no_over hb⟩
      · rw [if_neg hb] at eb; cases eb)
    (fun b o eb => by cases eb)
  rw [both_nil] at st
  obtain ⟨hs1, hf1, _, _⟩ := st
  generalize hH1 : H.both (fun b => if s.heap.objs.size ≤ (b : Nat) then h1.get? b else none) = H1 at hs1 hf1
  have hM : Pairs h1 acc.toList ns ys := ⟨by rw [Array.length_toList]; exact M.1, fun i hi' => by
    obtain ⟨T, x, y, m1, m2, m3, m4, _⟩ := M.2 i hi'
    obtain ⟨t, m5⟩ := int_at hi hi'
    rw [Int.toNat_natCast] at m5
    have m2' : xs[i]? = some x := by simpa using m2
    rw [m5] at m2'; cases m2'
    exact ⟨T, t, y, by simpa using m1, by simpa using m3, m4⟩⟩
  have hknown : ∀ {T : Addr} {x y : Value} {j : Nat}, j < ns.length → acc.toList[j]? = some (.ref T) → IsPair h1 T x y → H1 T = some (tupOf [x, y] 0) := fun {T x y j} hj ea hp => by
    obtain ⟨T', x', y', m1, _, _, m4, m5⟩ := M.2 j hj
    have : T' = T := by
      have m1' : acc.toList[j]? = some (.ref T') := by simpa using m1
      rw [ea] at m1'; cases m1'; rfl
    subst this
    rw [← hH1, PH.both_right (by
      cases e : H T' with
      | none => rfl
      | some o => exact absurd (Heap.lt_size (hs.get (show (H.both F) T' = some o from PH.both_left e))) (Nat.not_lt.mpr m5))]
    show (if s.heap.objs.size ≤ (T' : Nat) then h1.get? T' else none) = _
    rw [if_pos m5]; exact hp
  have hle : H.le H1 := by rw [← hH1]; exact le_both
  refine wpAny_bind (wpAny_newList ?_ (by rw [Array.length_toList, M.1, sizeLine_eq]; omega))
  have hoL : (h1.push (seqObj "list" acc.toList.toArray 0)).get? h1.objs.size = some (seqObj "list" acc.toList.toArray 0) := Heap.get?_push_size _ rfl
  have hs2 := hs1.push (seqObj "list" acc.toList.toArray 0) rfl
  have nbase : C.base.get? h1.objs.size = none := (hs2.hp _ _ PH.set_self).2.2
  refine wpAny_bind (wpAny_holding (wpAny_call_entry slot_list_sort ⟨_, hoL, rfl⟩ entry_list_sort ?body (args_list_sort _)))
  have hal : acc.toList.length = ns.length := by rw [Array.length_toList]; exact M.1
  refine kat_list_sort (s := { s with heap := h1.push (seqObj "list" acc.toList.toArray 0) }) (news := allNews C h1) hs2.fr (fun q hq => (mem_allNews.mp hq |> fun x => ⟨Heap.get?_push_of_some _ x.1, x.2⟩)) hoL (Nat.ne_of_gt hs1.Llt) nbase (fun q hq => Nat.ne_of_lt (Heap.lt_size (mem_allNews.mp hq).1)) (by rw [hal]; exact h2) (by rw [hal]; exact h64) fun c0 h3 F3 N3 => ?_
  have hM3 : Pairs h3 acc.toList ns ys := ⟨hM.1, fun i hi' => by
    obtain ⟨T, t, y, m1, m2, m3⟩ := hM.2 i hi'
    have := hs1.hp T _ (hknown hi' m1 m3)
    exact ⟨T, t, y, m1, m2, (N3 (T, _) (List.mem_cons_of_mem _ (mem_allNews.mpr this))).1⟩⟩
  refine kat_kind (fs := xs) (T := .type "int") (kat_of (by rw [hal]; exact hi.length.symm) fun i hi' => ?_) (by rw [hi.length]; omega) (fun v hv => ?_) (by decide) ?_
  · rw [hi.length] at hi'
    obtain ⟨T, x, y, m1, m2, _, m4, _⟩ := M.2 i hi'
    have m1' : acc.toList[i]? = some (.ref T) := by simpa using m1
    exact ⟨T, y, m1', x, by simpa using m2, (N3 (T, _) (List.mem_cons_of_mem _ (mem_allNews.mpr (hs1.hp T _ (hknown hi' m1' m4))))).1⟩
  · obtain ⟨k, e⟩ := List.getElem?_of_mem hv
    obtain ⟨_, t, rfl, _⟩ := hi.at k v e
    exact Looks.of_pure rfl
  show (kas_sort _).kasWp (kas_ask _ _ _ (tuples' true) _) _ _
  refine wp_of_run (n := ns.length) (lt := fun i j => decide (ns.getD i 0 < ns.getD j 0)) (P := fun s' => s' = { s with heap := h3 }) (fun i j C' s' hi1 hj1 hne hP hC => ?_) _ _ rfl (by rw [hal]; exact hrun) fun s' hP => ?_
  · subst hP
    exact ask_pairs hM3 hi1 hj1 (hdis i j hi1 hj1 hne) (hC _ rfl)
  subst hP
  refine KasFin.intro F3 N3 (UpdF.head fun q hq => Nat.ne_of_lt (Heap.lt_size (mem_allNews.mp hq).1)) fun h4 c F4 N4 => ⟨_, rfl, wpAny_pure ⟨_, rfl, ?_⟩⟩
  have keep4 : ∀ b o, b ≠ C.L → h1.get? b = some o → h4.get? b = some o := fun b o n e => by
    cases qb : C.base.get? b with
    | some ob =>
      have := hs1.fr.keep b ob qb
      rw [e] at this; cases this
      exact F4.keep b o qb
    | none => exact (N4 (b, o) (List.mem_cons_of_mem _ (mem_allNews.mpr ⟨e, n, qb⟩))).1
  refine q _ ⟨vs, H1.set h1.objs.size (listOf (p.toList.map fun i => acc.toList.getD i .none).toArray c)⟩ h4 s.toks ⟨F4, fun b o e => ?_⟩ (hf1.trans hs1 ⟨fun b o e => ?_, fun b o e n l => keep4 b o l e⟩) (h _ acc.toList _ (PH.le_trans hle (PH.le_set hs1.newAt)) PL.new hal fun i hi' => ?_)
  · rcases set_cases e with ⟨rfl, rfl⟩ | ⟨n1, e⟩
    · exact N4 _ List.mem_cons_self
    · have := hs1.hp b o e
      exact ⟨keep4 b o this.2.1 this.1, this.2⟩
  · rcases set_cases e with ⟨rfl, rfl⟩ | ⟨n1, e⟩
    · exact .inr (no_size _)
    · exact .inl (by show H1 b ≠ none; rw [e]; exact Option.some_ne_none _)
  · obtain ⟨T, t, y, m1, m2, m3⟩ := hM.2 i hi'
    exact ⟨T, t, y, m1, m2, 0, PH.le_set hs1.newAt _ _ (hknown hi' m1 m3)⟩
end
end Mine

namespace Mine
/-- the ways list: a tuple of two lists for each stand -/
inductive WaysAt (H : PH) : List Value → List (List Int × List Int) → Prop
  | nil : WaysAt H [] []
  | snoc {vs ws T l r li ri a b} : WaysAt H vs ws → TL H T [.ref l, .ref r] → IL H l li → IntsAre li a → IL H r ri → IntsAre ri b → WaysAt H (vs ++ [.ref T]) (ws ++ [(a, b)])
theorem WaysAt.le {H H' : PH} {vs : List Value} {ws : List (List Int × List Int)} (h : WaysAt H vs ws) (l : H.le H') : WaysAt H' vs ws := by
  induction h with
  | nil => exact .nil
  | snoc _ h1 h2 h3 h4 h5 ih => exact .snoc ih (h1.le l) (h2.le l) h3 (h4.le l) h5
theorem WaysAt.length {H : PH} {vs : List Value} {ws : List (List Int × List Int)} (h : WaysAt H vs ws) : vs.length = ws.length := by
  induction h with
  | nil => rfl
  | snoc _ _ _ _ _ _ ih => rw [List.length_append, List.length_append, ih]; rfl
theorem IL.delO {H : PH} {a b : Addr} {items : List Value} (h : IL H a items) (n : a ≠ b) : IL (H.del b) a items := let ⟨o, e, r⟩ := h; ⟨o, (del_ne n).trans e, r⟩
theorem TL.delO {H : PH} {a b : Addr} {items : List Value} (h : TL H a items) (n : a ≠ b) : TL (H.del b) a items := let ⟨k, e⟩ := h; ⟨k, (del_ne n).trans e⟩
theorem CutsAt.at {H : PH} {vs : List Value} {cs : List Cut} (h : CutsAt H vs cs) {i : Nat} {v : Value} (e : vs[i]? = some v) : ∃ c, cs[i]? = some c ∧ CutAt H v c := by
  induction h with
  | nil => cases e
  | @snoc vs cs v' c h hc ih =>
    rcases Nat.lt_or_ge i vs.length with hi | hi
    · rw [List.getElem?_append_left hi] at e
      obtain ⟨c', e1, e2⟩ := ih e
      exact ⟨c', by rw [List.getElem?_append_left (h.length ▸ hi)]; exact e1, e2⟩
    · rw [List.getElem?_append_right hi] at e
      obtain ⟨hj, e3⟩ := List.getElem?_eq_some_iff.mp e
      have : i - vs.length = 0 := Nat.lt_one_iff.mp hj
      rw [this] at e
      cases e
      exact ⟨c, by rw [List.getElem?_append_right (h.length ▸ hi), ← h.length, this]; rfl, hc⟩
theorem snoc_le {b : Bool} {l : List Int} {x : Int} {i : Nat} (h : l.length ≤ i) : (if b = true then l ++ [x] else l).length ≤ i + 1 := by
  cases b with
  | true => rw [if_pos rfl, List.length_append]; exact Nat.succ_le_succ h
  | false => rw [if_neg Bool.false_ne_true]; exact Nat.le_succ_of_le h
/-- each stand's worth is told by stands before it -/
def goodT (wf : Int → Int) (done : List Int) : List (Int × List Int × List Int) → Bool
  | [] => true
  | q :: r => q.2.1.all (fun x => done.any (· == x)) && q.2.2.all (fun x => done.any (· == x)) && !(done.any (· == q.1)) && (wf q.1 == simp (q.2.1.map wf) (q.2.2.map wf) 12 0 64 0) && decide (q.2.1.length ≤ 9 ∧ q.2.2.length ≤ 9) && goodT wf (done ++ [q.1]) r
theorem goodT_at {wf : Int → Int} : ∀ {T : List (Int × List Int × List Int)} {done : List Int}, goodT wf done T = true → ∀ {m : Nat} {q : Int × List Int × List Int}, T[m]? = some q →
    (∀ x ∈ q.2.1, x ∈ done ++ (T.take m).map (·.1)) ∧ (∀ x ∈ q.2.2, x ∈ done ++ (T.take m).map (·.1)) ∧ q.1 ∉ done ++ (T.take m).map (·.1) ∧ wf q.1 = simp (q.2.1.map wf) (q.2.2.map wf) 12 0 64 0 ∧ q.2.1.length ≤ 9 ∧ q.2.2.length ≤ 9
  | [], _, _, _, _, e => by cases e
  | q :: r, done, h, 0, _, e => by
    cases e
    unfold goodT at h
    simp only [Bool.and_eq_true, List.all_eq_true, List.any_eq_true, beq_iff_eq, Bool.not_eq_true', List.any_eq_false, decide_eq_true_eq] at h
    obtain ⟨⟨⟨⟨⟨h1, h2⟩, h3⟩, h4⟩, h5⟩, _⟩ := h
    simp only [List.take_zero, List.map_nil, List.append_nil]
    exact ⟨fun x hx => let ⟨y, hy, e⟩ := h1 x hx; e ▸ hy, fun x hx => let ⟨y, hy, e⟩ := h2 x hx; e ▸ hy, fun hm => h3 _ hm rfl, h4, h5⟩
  | q :: r, done, h, m + 1, q', e => by
    unfold goodT at h
    have := goodT_at (Bool.and_eq_true_iff.mp h).2 (m := m) e
    rw [List.append_assoc] at this
    exact this
theorem WaysAt.at {H : PH} {vs : List Value} {ws : List (List Int × List Int)} (h : WaysAt H vs ws) {i : Nat} {v : Value} (e : vs[i]? = some v) : ∃ T l r li ri, v = .ref T ∧ TL H T [.ref l, .ref r] ∧ IL H l li ∧ IntsAre li (ws.getD i ([], [])).1 ∧ IL H r ri ∧ IntsAre ri (ws.getD i ([], [])).2 := by
  induction h with
  | nil => cases e
  | @snoc vs ws T l r li ri a b hw h1 h2 h3 h4 h5 ih =>
    rcases Nat.lt_or_ge i vs.length with hi | hi
    · rw [List.getElem?_append_left hi] at e
      rw [getD_left (hw.length ▸ hi)]
      exact ih e
    · rw [List.getElem?_append_right hi] at e
      obtain ⟨hj, e3⟩ := List.getElem?_eq_some_iff.mp e
      have h0 : i - vs.length = 0 := Nat.lt_one_iff.mp hj
      have : i = ws.length := by rw [← hw.length]; omega
      rw [h0] at e
      cases e
      subst this
      rw [getD_end]
      exact ⟨T, l, r, li, ri, rfl, h1, h2, h3, h4, h5⟩
theorem pairs_value {kvs : List (Int × Value)} {xs : List Int} {wf : Int → Int} (h : PairsAre kvs (xs.map fun x => (x, wf x))) {x : Int} (hx : x ∈ xs) : ∃ t, valueAt kvs x = some (.int (wf x) t) := by
  obtain ⟨l, rfl, e⟩ := h
  have hm : ∀ q ∈ l, q.2.1 = wf q.1 := fun q hq => by
    have : (q.1, q.2.1) ∈ xs.map fun x => (x, wf x) := e ▸ List.mem_map.mpr ⟨q, hq, rfl⟩
    obtain ⟨y, _, e2⟩ := List.mem_map.mp this
    obtain ⟨h1, h2⟩ := Prod.mk.inj e2
    exact h2.symm.trans (congrArg wf h1)
  have hx' : (x, wf x) ∈ l.map fun q => (q.1, q.2.1) := e ▸ List.mem_map.mpr ⟨x, hx, rfl⟩
  clear e
  unfold valueAt
  induction l with
  | nil => cases hx'
  | cons q l ih =>
    rw [List.map_cons, List.find?_cons]
    by_cases hq : q.1 = x
    · rw [show decide (q.1 = x) = true from decide_eq_true hq]
      exact ⟨q.2.2, by show some (Value.int q.2.1 q.2.2) = _; rw [hm q List.mem_cons_self, hq]⟩
    · rw [show decide (q.1 = x) = false from decide_eq_false hq]
      refine ih (fun q' h' => hm q' (List.mem_cons_of_mem _ h')) ?_
      rcases List.mem_cons.mp hx' with e3 | h3
      · exact absurd (congrArg Prod.fst e3).symm hq
      · exact h3
theorem WaysAt.delC {H : PH} {vs : List Value} {ws : List (List Int × List Int)} {c : Addr} {oc : Obj} {v : Option Value} (h : WaysAt H vs ws) (hc : H c = some oc) (hd : oc.data = .cell v) : WaysAt (H.del c) vs ws := by
  induction h with
  | nil => exact .nil
  | snoc _ h1 h2 h3 h4 h5 ih =>
    exact .snoc ih (h1.delO fun q => by obtain ⟨k, e⟩ := h1; rw [q, hc] at e; cases e; cases hd) (h2.delC hc hd) h3 (h4.delC hc hd) h5
theorem DL.ne_list {C : Cx} {H : PH} {d a : Addr} {kvs : List (Int × Value)} {items : List Value} (h : DL C H d kvs) (hl : IL H a items) : a ≠ d := fun q => by
  obtain ⟨h1, od, e, es, ep, _, r2, _⟩ := h
  obtain ⟨oc, e2, _, k, d2⟩ := hl
  rw [q, e] at e2; cases e2; rw [d2] at r2; cases r2
theorem DL.ne_tup {C : Cx} {H : PH} {d a : Addr} {kvs : List (Int × Value)} {items : List Value} (h : DL C H d kvs) (hl : TL H a items) : a ≠ d := fun q => by
  obtain ⟨h1, od, e, es, ep, _, r2, _⟩ := h
  obtain ⟨k, e2⟩ := hl
  rw [q, e] at e2; cases e2; cases r2
theorem snoc_len {st : List Int} {x : Int} {n i : Nat} (h : st.length ≤ n + i) : (st ++ [x]).length ≤ n + (i + 1) := by rw [List.length_append]; exact Nat.succ_le_succ h
theorem drop_at {α : Type} {l : List α} {i : Nat} {a : α} (e : l[i]? = some a) : l.drop i = a :: l.drop (i + 1) := by
  obtain ⟨hi, e2⟩ := List.getElem?_eq_some_iff.mp e
  rw [List.drop_eq_getElem_cons hi, e2]
theorem ints_app {vs : List Value} {ns : List Int} (h : IntsAre vs ns) (v : Int) (t : Tok) : IntsAre (vs ++ [.int v t]) (ns ++ [v]) := h.append (.cons _ _ .nil)
inductive PlayI (H₁ : PH) (cs : List Cut) (S : List Int) (W : List (List Int × List Int)) (ca sa wa : Addr) : Nat → Sg → Prop
  | mk (f : Nat) (B H' : PH) (stands : List Int) (ways : List (List Int × List Int)) (sv wv : List Value) (o1 o2 o3 o4 o5 o6 o7 o8 o9 : Option Value) : H₁.le B → B.le H' → B sa = none → B wa = none → PL H' sa sv → IntsAre sv stands → PL H' wa wv → WaysAt B wv ways → playGo cs f stands ways = some (S, W) →
    stands.length + 5 * f ≤ 201 → ways.length + f ≤ 40 → PlayI H₁ cs S W ca sa wa f ⟨[some (.ref ca), some (.ref sa), some (.ref wa), o1, o2, o3, o4, o5, o6, o7, o8, o9], H'⟩
inductive PlayO (H₁ : PH) (S : List Int) (W : List (List Int × List Int)) (ca sa wa : Addr) : Flow → Sg → Prop
  | mk (B H' : PH) (sv wv : List Value) (o1 o2 o3 o4 o5 o6 o7 o8 o9 : Option Value) : H₁.le B → B.le H' → B sa = none → B wa = none → PL H' sa sv → IntsAre sv S → PL H' wa wv → WaysAt B wv W → PlayO H₁ S W ca sa wa .next ⟨[some (.ref ca), some (.ref sa), some (.ref wa), o1, o2, o3, o4, o5, o6, o7, o8, o9], H'⟩
inductive PlayJ (B : PH) (cs : List Cut) (here : Int) (th : Tok) (fin : List Int × List Int × List Int) (ca sa wa lf rt : Addr) (wv : List Value) (n0 : Nat) : Nat → Sg → Prop
  | mk (i : Nat) (H' : PH) (st l r : List Int) (sv li ri : List Value) (ok og om ot oo ob : Option Value) : B.le H' → PL H' sa sv → IntsAre sv st → PL H' lf li → IntsAre li l → PL H' rt ri → IntsAre ri r → PL H' wa wv → movesGo here (cs.drop i) (st, l, r) = some fin →
    st.length ≤ n0 + i → l.length ≤ i → r.length ≤ i → PlayJ B cs here th fin ca sa wa lf rt wv n0 i ⟨[some (.ref ca), some (.ref sa), some (.ref wa), some (.int here th), some (.ref lf), some (.ref rt), ok, og, om, ot, oo, ob], H'⟩
theorem PlayJ.le {B : PH} {cs : List Cut} {here : Int} {th : Tok} {fin : List Int × List Int × List Int} {ca sa wa lf rt : Addr} {wv : List Value} {n0 i : Nat} {σ : Sg} (h : PlayJ B cs here th fin ca sa wa lf rt wv n0 i σ) : B.le σ.H := by
  cases h; assumption
inductive PlayA (B : PH) (sa lf rt wa : Addr) (sv wv : List Value) (l r : List Int) (vt : Tok → List (Option Value)) : Flow → Sg → Prop
  | mk (H' : PH) (li ri : List Value) (tt : Tok) : B.le H' → PL H' sa sv → PL H' lf li → IntsAre li l → PL H' rt ri → IntsAre ri r → PL H' wa wv → PlayA B sa lf rt wa sv wv l r vt .next ⟨vt tt, H'⟩
inductive PlayW (C : Cx) (B4 : PH) (wf : Int → Int) (S : List Int) (ps : List Nat) (d ca sa wa : Addr) (o2 o3 o4 o5 o6 o7 o8 : Option Value) : Nat → Sg → Prop
  | mk (m : Nat) (H' : PH) (kvs : List (Int × Value)) (oh ob : Option Value) : B4.le H' → DL C H' d kvs → PairsAre kvs ((ps.take m).map fun i => (S.getD i 0, wf (S.getD i 0))) → PlayW C B4 wf S ps d ca sa wa o2 o3 o4 o5 o6 o7 o8 m ⟨[some (.ref ca), some (.ref sa), some (.ref wa), oh, o2, o3, o4, o5, o6, o7, o8, ob], H'⟩
theorem PlayW.le {C : Cx} {B4 : PH} {wf : Int → Int} {S : List Int} {ps : List Nat} {d ca sa wa : Addr} {o2 o3 o4 o5 o6 o7 o8 : Option Value} {m : Nat} {σ : Sg} (h : PlayW C B4 wf S ps d ca sa wa o2 o3 o4 o5 o6 o7 o8 m σ) : B4.le σ.H := by
  cases h; assumption
section
variable {C : Cx} {σ : Sg} {n : Nat}
theorem f_played {ca : Addr} {cv : List Value} {cs : List Cut} {S : List Int} {W : List (List Int × List Int)} {vs : List (Option Value)} {H : PH} {R : Value → Sg → Prop} (O : Ok C (n + 3)) (hc : IL H ca cv) (hcs : CutsAt H cv cs) (hc5 : cs.length ≤ 5) (hk : ∀ c ∈ cs, 0 ≤ c.1 ∧ c.1 ≤ 5) (hp : playGo cs 40 [62] [] = some (S, W))
    {p : Array Nat} {wf : Int → Int} (hSW : W.length = S.length) (h2 : 2 ≤ S.length) (h64 : S.length < 64) (hdis : ∀ i j, i < S.length → j < S.length → i ≠ j → S.getD i 0 ≠ S.getD j 0) (hrun : runOk (fun i j => decide (S.getD i 0 < S.getD j 0)) S.length (kas_sort S.length) = some p)
    (hpS : p.toList.length = S.length) (hpi : ∀ i ∈ p.toList, i < S.length) (hT : goodT wf [] (p.toList.map fun i => (S.getD i 0, W.getD i ([], []))) = true)
    (h : ∀ d kvs H', H.le H' → DL C H' d kvs → PairsAre kvs (p.toList.map fun i => (S.getD i 0, wf (S.getD i 0))) → R (.ref d) ⟨vs, H'⟩) : J C (PySem.call (.ref 230) [.ref ca]) ⟨vs, H⟩ R := by
  refine j_callC [Str.ofString "cuts", Str.ofString "stands", Str.ofString "ways", Str.ofString "here", Str.ofString "left", Str.ofString "right", Str.ofString "k", Str.ofString "gone", Str.ofString "mine", Str.ofString "theirs", Str.ofString "there", Str.ofString "both"] [some (.ref ca), none, none, none, none, none, none, none, none, none, none, none] O (by k_is) (by k_is) [(Str.ofString "cuts", .ref ca)] (by rfl) (fun L => ?_) ?_ (by decide) rfl rfl rfl fun A' base' L' H₁ O' hle₁ hcell => ?_
  · intro y hy
    rw [List.mem_singleton] at hy
    subst hy
    exact .inl rfl
  · exact (look_one _ _ _).symm
  obtain ⟨nc, oc, ec, dc⟩ := hcell (Str.ofString "worth") (L' + 1) rfl
  walk_at "jx"
  refine j_newList (le_line (by simp)) fun sa hsa => ?_
  walk_at "jx"
  refine j_newList (le_line (by simp)) fun wa hwa => ?_
  walk_at "jx"
  have nws : sa ≠ wa := fun q => by rw [← q, PH.set_self] at hwa; cases hwa
  have nwa : H₁ wa = none := none_le (PH.le_set hsa) hwa
  refine j_mono (R := PlayO H₁ S W ca sa wa) ?_ ?_
  · refine j_whileP (PlayI H₁ cs S W ca sa wa) 40 (.mk _ H₁ _ [62] [] _ _ _ _ _ _ _ _ _ _ _ (PH.le_refl _) (PH.le_trans (PH.le_set hsa) (PH.le_set hwa)) hsa nwa (PL.new.le (PH.le_set hwa)) (.cons _ _ .nil) PL.new .nil hp (by decide) (by decide)) ?_
    rintro f _ ⟨B, H2, stands, ways, sv, wv, o1, o2, o3, o4, o5, o6, o7, o8, o9, hB1, hB2, nBs, nBw, hsv, hsi, hwv, hwi, hpg, hb1, hb2⟩ P hPn hPc hPb hPr
    rcases f with _ | f
    · cases hpg
    walk_at "jx"
    refine j_lenL hwv.il (by rw [hwi.length]; omega) fun _ => ?_
    walk_at "jx"
    refine j_lenL hsv.il (by rw [hsi.length]; omega) fun _ => ?_
    walk_at "jx"
    rw [hwi.length, hsi.length]
    unfold playGo at hpg
    refine ⟨fun hlt => ?_, fun hge => ?_⟩
    · have hlt' : ways.length < stands.length := Int.ofNat_lt.mp (of_decide_eq_true hlt)
      rw [List.getElem?_eq_getElem hlt'] at hpg
      dsimp only at hpg
      obtain ⟨th, hth⟩ := int_at hsi hlt'
      rw [List.getD_eq_getElem?_getD, List.getElem?_eq_getElem hlt', Option.getD_some] at hth
      generalize stands[ways.length] = here at hpg hth
      cases hmg : movesGo here cs (stands, [], []) with
      | none => rw [hmg] at hpg; cases hpg
      | some fin =>
        rw [hmg] at hpg
        dsimp only at hpg
        walk_at "jx"
        refine j_lenL hwv.il (by rw [hwi.length]; omega) fun _ => ?_
        walk_at "jx"
        rw [hwi.length]
        refine f_getAt O' hsv.il (Int.natCast_nonneg _) (lt_big (by omega)) hth ?_
        walk_at "jx"
        refine j_newList (le_line (by simp)) fun lf hlf => ?_
        walk_at "jx"
        refine j_newList (le_line (by simp)) fun rt hrt => ?_
        walk_at "jx"
        have nls : lf ≠ sa := fun q => by obtain ⟨k, e⟩ := hsv; rw [q, e] at hlf; cases hlf
        have nlw : lf ≠ wa := fun q => by obtain ⟨k, e⟩ := hwv; rw [q, e] at hlf; cases hlf
        have nrs : rt ≠ sa := fun q => by obtain ⟨k, e⟩ := hsv.le (PH.le_set hlf); rw [q, e] at hrt; cases hrt
        have nrw : rt ≠ wa := fun q => by obtain ⟨k, e⟩ := hwv.le (PH.le_set hlf); rw [q, e] at hrt; cases hrt
        have nlr : lf ≠ rt := fun q => by rw [← q, PH.set_self] at hrt; cases hrt
        have nBl : B lf = none := none_le hB2 hlf
        have nBr : B rt = none := none_le (PH.le_trans hB2 (PH.le_set hlf)) hrt
        have l23 := PH.le_trans (PH.le_set (o := listOf [].toArray 0) hlf) (PH.le_set (o := listOf [].toArray 0) hrt)
        have hcB : IL B ca cv := hc.le (PH.le_trans hle₁ hB1)
        have hcsB : CutsAt B cv cs := hcs.le (PH.le_trans hle₁ hB1)
        refine j_iterList O' (hcB.le (PH.le_trans hB2 l23)) fun it F hF hIt => ?_
        refine forAt_iterP (iter_list O') hF hIt (PlayJ B cs here th fin ca sa wa lf rt wv stands.length) ?_ (fun _ _ h => hcB.le h.le) ?_ ?_
        · exact .mk _ _ stands [] [] sv [] [] _ _ _ _ _ _ (PH.le_trans hB2 l23) (hsv.le l23) hsi (PL.new.le (PH.le_set hrt)) .nil PL.new .nil (hwv.le l23) hmg (Nat.le_refl _) (Nat.le_refl _) (Nat.le_refl _)
        · rintro i _ v hi ⟨H3, st, l, r, sv3, li, ri, ok, og, om, ot, oo, ob, hB3, hsv3, hst, hli, hll, hri, hrr, hwv3, hmv, hz1, hz2, hz3⟩ hv P2 hPn2 hPc2 hPb2 hPr2
          obtain ⟨⟨k, gone, mine, theirs⟩, hci, a, t, u, rfl, hTL⟩ := hcsB.at hv
          rw [drop_at hci] at hmv
          obtain ⟨hk0, hk5⟩ := hk _ (List.mem_of_getElem? hci)
          dsimp only at hTL hk0 hk5
          have hi5 : i < 5 := Nat.lt_of_lt_of_le (List.getElem?_eq_some_iff.mp hci).1 hc5
          refine j_unpack O' (hTL.le hB3).ti (by rfl) (by rfl) ?_
          show J _ (assignInOrder [assign (PySem.Expr.Name _ _) _, assign (PySem.Expr.Name _ _) _, assign (PySem.Expr.Name _ _) _, assign (PySem.Expr.Name _ _) _] [_, _, _, _]) _ _
          walk_at "jx"
          unfold movesGo at hmv
          dsimp only at hmv
          refine j_if ?_
          walk_at "jx"
          refine f_lshift O' hk0 (Int.le_trans hk5 (by decide)) (by decide) fun _ => ?_
          walk_at "jx"
          refine ⟨fun q1 => ?_, fun q1 => ?_⟩
          · rw [if_neg (fun e => by rw [e] at q1; exact absurd q1 (by decide))] at hmv
            walk_at "jx"
            generalize Builtin.bitAnd here (Builtin.bitNot gone) = there at hmv ⊢
            refine j_if ?_
            walk_at "jx"
            refine ⟨fun q2 => ?_, fun q2 => ?_⟩
            · rw [if_pos (by simpa using q2)] at hmv; cases hmv
            rw [if_neg (by simpa using q2)] at hmv
            walk_at "jx"
            refine j_mono (R := PlayA B sa lf rt wa sv3 wv (if mine = true then l ++ [there] else l) r (fun tt => [some (.ref ca), some (.ref sa), some (.ref wa), some (.int here th), some (.ref lf), some (.ref rt), some (.int k t), some (.int gone u), some (.bool mine), some (.bool theirs), some (.int there tt), ob])) ?_ ?_
            · refine j_if ?_
              walk_at "jx"
              cases mine with
              | true =>
                refine ⟨fun _ => ?_, (fun hc => nomatch hc)⟩
                walk_at "jx"
                refine j_gmAppend hli ?_
                walk_at "jx"
                refine j_append hli (le_line (by rw [hll.length]; omega)) fun k1 => ?_
                walk_at "jx"
                exact .mk _ _ _ _ (le_setN hB3 nBl) (hsv3.setO (Ne.symm nls)) PL.new (ints_app hll _ _) (hri.setO (Ne.symm nlr)) hrr (hwv3.setO (Ne.symm nlw))
              | false =>
                refine ⟨(fun hc => nomatch hc), fun _ => ?_⟩
                walk_at "jx"
                exact .mk _ _ _ _ hB3 hsv3 hli hll hri hrr hwv3
            rintro _ _ ⟨H4, li4, ri4, tt, hB4, hsv4, hli4, hll4, hri4, hrr4, hwv4⟩
            walk_at "jx"
            refine j_mono (R := PlayA B sa lf rt wa sv3 wv (if mine = true then l ++ [there] else l) (if theirs = true then r ++ [there] else r) (fun tt => [some (.ref ca), some (.ref sa), some (.ref wa), some (.int here th), some (.ref lf), some (.ref rt), some (.int k t), some (.int gone u), some (.bool mine), some (.bool theirs), some (.int there tt), ob])) ?_ ?_
            · refine j_if ?_
              walk_at "jx"
              cases theirs with
              | true =>
                refine ⟨fun _ => ?_, (fun hc => nomatch hc)⟩
                walk_at "jx"
                refine j_gmAppend hri4 ?_
                walk_at "jx"
                refine j_append hri4 (le_line (by rw [hrr4.length]; omega)) fun k1 => ?_
                walk_at "jx"
                exact .mk _ _ _ _ (le_setN hB4 nBr) (hsv4.setO (Ne.symm nrs)) (hli4.setO nlr) hll4 PL.new (ints_app hrr4 _ _) (hwv4.setO (Ne.symm nrw))
              | false =>
                refine ⟨(fun hc => nomatch hc), fun _ => ?_⟩
                walk_at "jx"
                exact .mk _ _ _ _ hB4 hsv4 hli4 hll4 hri4 hrr4 hwv4
            rintro _ _ ⟨H5, li5, ri5, tt5, hB5, hsv5, hli5, hll5, hri5, hrr5, hwv5⟩
            have hl5 : (if mine = true then l ++ [there] else l).length ≤ i + 1 := snoc_le hz2
            have hr5 : (if theirs = true then r ++ [there] else r).length ≤ i + 1 := snoc_le hz3
            walk_at "jx"
            refine j_if ?_
            walk_at "jx"
            refine f_contains O' hsv5.il hst ?_
            walk_at "jx"
            refine ⟨fun q3 => ?_, fun q3 => ?_⟩
            · rw [if_neg (fun e => by rw [e] at q3; cases q3)] at hmv
              walk_at "jx"
              refine j_gmAppend hsv5 ?_
              walk_at "jx"
              refine j_append hsv5 (le_line (by rw [hst.length]; omega)) fun k1 => ?_
              walk_at "jx"
              exact hPn2 _ (.mk _ _ _ _ _ _ _ _ _ _ _ _ _ _ (le_setN hB5 nBs) PL.new (ints_app hst _ _) (hli5.setO nls) hll5 (hri5.setO nrs) hrr5 (hwv5.setO (Ne.symm nws)) hmv (snoc_len hz1) hl5 hr5)
            · rw [if_pos (by simpa using q3)] at hmv
              walk_at "jx"
              exact hPn2 _ (.mk _ _ _ _ _ _ _ _ _ _ _ _ _ _ hB5 hsv5 hst hli5 hll5 hri5 hrr5 hwv5 hmv (Nat.le_succ_of_le hz1) hl5 hr5)
          · rw [if_pos (by simpa using q1)] at hmv
            walk_at "jx"
            exact hPn2 _ (.mk _ _ _ _ _ _ _ _ _ _ _ _ _ _ hB3 hsv3 hst hli hll hri hrr hwv3 hmv (Nat.le_succ_of_le hz1) (Nat.le_succ_of_le hz2) (Nat.le_succ_of_le hz3))
        · rintro _ ⟨H3, st, l, r, sv3, li, ri, ok, og, om, ot, oo, ob, hB3, hsv3, hst, hli, hll, hri, hrr, hwv3, hmv, hz1, hz2, hz3⟩
          walk_at "jx"
          rw [List.drop_eq_nil_of_le (Nat.le_of_eq hcsB.length.symm)] at hmv
          cases hmv
          refine j_gmAppend hwv3 ?_
          walk_at "jx"
          refine j_newTuple (le_line (by simp)) fun T hT => ?_
          walk_at "jx"
          have lT := PH.le_set (o := tupOf [.ref lf, .ref rt] 0) hT
          have nTs : T ≠ sa := fun q => by obtain ⟨k, e⟩ := hsv3; rw [q, e] at hT; cases hT
          have nTw : T ≠ wa := fun q => by obtain ⟨k, e⟩ := hwv3; rw [q, e] at hT; cases hT
          refine j_append (hwv3.le lT) (le_line (by rw [hwi.length]; omega)) fun k1 => ?_
          walk_at "jx"
          generalize hH4 : H3.set T (tupOf [.ref lf, .ref rt] 0) = H4 at lT
          have tT : TL H4 T [.ref lf, .ref rt] := hH4 ▸ TL.new
          have hB5 : B.le ((H4.del sa).del wa) := le_del (le_del (PH.le_trans hB3 lT) nBs) nBw
          exact hPn f _ (Nat.lt_succ_self _) (.mk _ ((H4.del sa).del wa) _ st (ways ++ [(l, r)]) sv3 (wv ++ [.ref T]) _ _ _ _ _ _ _ _ _ (PH.le_trans hB1 hB5) (le_setN (PH.le_trans del_le del_le) del_self) (by rw [del_ne nws]; exact del_self) del_self ((hsv3.le lT).setO nws) hst PL.new
            ((hwi.le hB5).snoc ((tT.delO nTs).delO nTw) (((hli.le lT).il.delO nls).delO nlw) hll (((hri.le lT).il.delO nrs).delO nrw) hrr) hpg (by rw [hcsB.length] at hz1; omega) (by rw [List.length_append]; simp only [List.length_singleton]; omega))
    · rw [List.getElem?_eq_none (Int.ofNat_le.mp (Int.not_lt.mp (of_decide_eq_false hge)))] at hpg
      cases hpg
      exact .mk B _ sv wv _ _ _ _ _ _ _ _ _ hB1 hB2 nBs nBw hsv hsi hwv hwi
  rintro _ _ ⟨B, H2, sv, wv, o1, o2, o3, o4, o5, o6, o7, o8, o9, hB1, hB2, nBs, nBw, hsv, hsi, hwv, hwi⟩
  walk_at "jx"
  refine j_newD O' fun d od nd hD => ?_
  walk_at "jx"
  have hcB : B (L' + 1) = some oc := hB1 _ _ ec
  refine j_storeCell (c := L' + 1) (by rfl) (PH.le_set nd _ _ (hB2 _ _ hcB)) dc (fun oc2 hd2 => ?_) (by rfl) (by rfl)
  have c1 : (H2.set d od) (L' + 1) = some oc := PH.le_set nd _ _ (hB2 _ _ hcB)
  have g1 : H.le ((H2.set d od).set (L' + 1) oc2) := le_setN (PH.le_trans hle₁ (PH.le_trans hB1 (PH.le_trans hB2 (PH.le_set nd)))) nc
  have g2 : PL ((H2.set d od).set (L' + 1) oc2) sa sv := (hsv.le (PH.le_set nd)).setC c1 dc
  have g3 : PL ((H2.set d od).set (L' + 1) oc2) wa wv := (hwv.le (PH.le_set nd)).setC c1 dc
  have g4 : (B.del (L' + 1)).le ((H2.set d od).set (L' + 1) oc2) := le_setN (PH.le_trans del_le (PH.le_trans hB2 (PH.le_set nd))) del_self
  have g5 : WaysAt (B.del (L' + 1)) wv W := hwi.delC hcB dc
  have g6 : CellIs ((H2.set d od).set (L' + 1) oc2) (L' + 1) (some (.ref d)) := ⟨oc2, PH.set_self, hd2⟩
  have g7 : DL C ((H2.set d od).set (L' + 1) oc2) d [] := hD.setC c1 dc
  have nBd : (B.del (L' + 1)) d = none := none_le (PH.le_trans del_le hB2) nd
  have nHd : H d = none := none_le (PH.le_trans hle₁ (PH.le_trans hB1 hB2)) nd
  generalize (H2.set d od).set (L' + 1) oc2 = H3 at g1 g2 g3 g4 g6 g7
  generalize B.del (L' + 1) = B3 at g4 g5 nBd
  walk_at "jx"
  refine j_zip g2.il g3.il fun z F hF hS => ?_
  walk_at "jx"
  refine j_sortedZip O' g2.il g3.il hF hS hsi (hwi.length.trans hSW) h2 h64 hdis hrun fun D items H4 l4 hD4 hil hit => ?_
  walk_at "jx"
  refine j_iterList O' hD4.il fun it F2 hF2 hIt => ?_
  have g8 : DL C H4 d [] := g7.le l4
  have q1 : H.le (H4.del d) := le_del (PH.le_trans g1 l4) nHd
  have q2 : B3.le (H4.del d) := le_del (PH.le_trans g4 l4) nBd
  have q3 : IL (H4.del d) D (p.toList.map fun i => items.getD i .none) := hD4.il.delO (g8.ne_list hD4.il)
  have q4 : IL (H4.del d) sa sv := (g2.il.le l4).delO (g8.ne_list (g2.il.le l4))
  have q5 : CellIs (H4.del d) (L' + 1) (some (.ref d)) := by
    obtain ⟨o, e, ed⟩ := g6.le l4
    exact ⟨o, (del_ne (g8.ne_cell ⟨o, e, ed⟩)).trans e, ed⟩
  have q6 : (H4.del d) d = none := del_self
  have q7 : ∀ i, i < S.length → ∃ T t y, items[i]? = some (.ref T) ∧ wv[i]? = some y ∧ TL (H4.del d) T [.int (S.getD i 0) t, y] := fun i hi => let ⟨T, t, y, e1, e2, e3⟩ := hit i hi; ⟨T, t, y, e1, e2, e3.delO (g8.ne_tup e3)⟩
  have q8 : (H4.del d).le H4 := del_le
  generalize H4.del d = B4 at q1 q2 q3 q4 q5 q6 q7 q8
  refine forAt_iterP (iter_list O') hF2 hIt (PlayW C B4 wf S p.toList d ca sa wa o2 o3 o4 o5 o6 o7 o8) ?_ (fun _ _ h => q3.le h.le) ?_ ?_
  · exact .mk _ _ [] _ _ q8 g8 .nil
  · rintro m _ v hm ⟨H5, kvs, oh, ob, hle5, hkv, hps⟩ hv P hPn hPc hPb hPr
    rw [List.getElem?_map] at hv
    cases hpm : p.toList[m]? with
    | none => rw [hpm] at hv; cases hv
    | some i =>
    rw [hpm] at hv
    replace hv : items.getD i .none = v := Option.some.inj hv
    have hi := hpi i (List.mem_of_getElem? hpm)
    obtain ⟨T, t, y, e1, e2, e3⟩ := q7 i hi
    rw [List.getD_eq_getElem?_getD, e1] at hv
    obtain rfl : v = .ref T := hv.symm
    obtain ⟨T2, l, r, li, ri, rfl, w1, w2, w3, w4, w5⟩ := g5.at e2
    obtain ⟨k1, k2, k3, k4, k5, k6⟩ := goodT_at hT (m := m) (q := (S.getD i 0, W.getD i ([], []))) (by rw [List.getElem?_map, hpm]; rfl)
    rw [List.nil_append, ← List.map_take, List.map_map] at k1 k2 k3
    have hpx : PairsAre kvs (((p.toList.take m).map fun i => S.getD i 0).map fun x => (x, wf x)) := by rw [List.map_map]; exact hps
    generalize hrd : S.getD i 0 = hr at e3 k3 k4
    generalize W.getD i ([], []) = wq at w3 w5 k1 k2 k4 k5 k6
    have l5 := PH.le_trans q2 hle5
    refine j_unpack2 O' (e3.le hle5).ti ?_
    walk_at "jx"
    refine j_comp (n := n + 2) O' (cl := [(Str.ofString "worth", L' + 1)]) (ns := [Str.ofString "there"]) (by rfl) (by decide) rfl (by decide) (by decide) (by intro _; rfl) ?_
    walk_at "jx"
    refine at_T (w1.le l5) (by decide) (by decide) (j := 0) (by rfl) rfl ?_
    refine j_iterList O' (w2.le l5) fun it3 F3 hF3 hIt3 => ?_
    refine compAt_iter (n := n + 2) (by rw [w3.length]; exact Nat.le_trans k5 (by decide)) (fun _ _ h => h.le le_both) (fun base' L'' O'' => iter_list O'') hF3 hIt3 (fun j ys Hc => H5.le Hc ∧ IntsAre ys ((wq.1.take j).map wf)) ⟨PH.le_refl _, .nil⟩ (fun _ _ _ h => w2.le (PH.le_trans l5 h.1)) ?_ ?_
    · rintro base' L'' O'' j ys Hc v vs' hj hvl ⟨hleC, hys⟩ hv
      obtain ⟨v1, rfl⟩ : ∃ v1, vs' = [v1] := by
        rcases vs' with _ | ⟨a1, _ | ⟨_, _⟩⟩
        · cases hvl
        · exact ⟨_, rfl⟩
        · cases hvl
      obtain ⟨hjn, tj, rfl⟩ := ints_at w3 hv
      walk_at "jx"
      refine j_tests0 ⟨fun _ => ?_, fun hh => nomatch hh⟩
      walk_at "jx"
      refine j_cell (by rfl) (q5.le (PH.le_trans (PH.le_trans hle5 (PH.le_refl H5)) hleC)) ?_ (by rfl) (by rfl) (by decide)
      walk_at "jx"
      obtain ⟨tx, hx⟩ := pairs_value hpx (k1 _ (List.getElem_mem hjn))
      refine ⟨subs_D (hkv.le (PH.le_trans (PH.le_refl H5) hleC)), j_getD (hkv.le (PH.le_trans (PH.le_refl H5) hleC)) hx ⟨rfl, hleC, ?_⟩⟩
      rw [List.take_succ_eq_append_getElem hjn, List.map_append]
      exact ints_app hys _ _
    rintro D1 ys1 Hc1 kd1 hD1 ⟨hleC1, hys1⟩
    rw [List.take_of_length_le (Nat.le_of_eq w3.length.symm)] at hys1
    walk_at "jx"
    have l6 : H5.le (Hc1.set D1 (listOf ys1.toArray kd1)) := PH.le_trans hleC1 (PH.le_set hD1)
    have m1 := (PL.new (H := Hc1) (a := D1) (items := ys1) (n := kd1)).il
    generalize Hc1.set D1 (listOf ys1.toArray kd1) = H6 at l6 m1
    refine j_comp (n := n + 2) O' (cl := [(Str.ofString "worth", L' + 1)]) (ns := [Str.ofString "there"]) (by rfl) (by decide) rfl (by decide) (by decide) (by intro _; rfl) ?_
    walk_at "jx"
    refine at_T (w1.le (PH.le_trans l5 l6)) (by decide) (by decide) (j := 1) (by rfl) rfl ?_
    refine j_iterList O' (w4.le (PH.le_trans l5 l6)) fun it4 F4 hF4 hIt4 => ?_
    refine compAt_iter (n := n + 2) (by rw [w5.length]; exact Nat.le_trans k6 (by decide)) (fun _ _ h => h.le le_both) (fun base' L'' O'' => iter_list O'') hF4 hIt4 (fun j ys Hc => H6.le Hc ∧ IntsAre ys ((wq.2.take j).map wf)) ⟨PH.le_refl _, .nil⟩ (fun _ _ _ h => w4.le (PH.le_trans (PH.le_trans l5 l6) h.1)) ?_ ?_
    · rintro base' L'' O'' j ys Hc v vs' hj hvl ⟨hleC, hys⟩ hv
      obtain ⟨v1, rfl⟩ : ∃ v1, vs' = [v1] := by
        rcases vs' with _ | ⟨a1, _ | ⟨_, _⟩⟩
        · cases hvl
        · exact ⟨_, rfl⟩
        · cases hvl
      obtain ⟨hjn, tj, rfl⟩ := ints_at w5 hv
      walk_at "jx"
      refine j_tests0 ⟨fun _ => ?_, fun hh => nomatch hh⟩
      walk_at "jx"
      refine j_cell (by rfl) (q5.le (PH.le_trans (PH.le_trans hle5 l6) hleC)) ?_ (by rfl) (by rfl) (by decide)
      walk_at "jx"
      obtain ⟨tx, hx⟩ := pairs_value hpx (k2 _ (List.getElem_mem hjn))
      refine ⟨subs_D (hkv.le (PH.le_trans l6 hleC)), j_getD (hkv.le (PH.le_trans l6 hleC)) hx ⟨rfl, hleC, ?_⟩⟩
      rw [List.take_succ_eq_append_getElem hjn, List.map_append]
      exact ints_app hys _ _
    rintro D2 ys2 Hc2 kd2 hD2 ⟨hleC2, hys2⟩
    rw [List.take_of_length_le (Nat.le_of_eq w5.length.symm)] at hys2
    walk_at "jx"
    have l7 : H5.le (Hc2.set D2 (listOf ys2.toArray kd2)) := PH.le_trans l6 (PH.le_trans hleC2 (PH.le_set hD2))
    have m2 := (PL.new (H := Hc2) (a := D2) (items := ys2) (n := kd2)).il
    replace m1 := m1.le (PH.le_trans hleC2 (PH.le_set (o := listOf ys2.toArray kd2) hD2))
    generalize Hc2.set D2 (listOf ys2.toArray kd2) = H7 at l7 m1 m2
    refine f_simplest O' m1 hys1 m2 hys2 fun ts H8 l8 => ?_
    rw [← k4]
    replace l7 := PH.le_trans l7 l8
    walk_at "jx"
    refine j_cell (by rfl) (q5.le (PH.le_trans hle5 l7)) ?_ (by rfl) (by rfl) (by decide)
    walk_at "jx"
    have hkk := hpx.keys (k := hr) fun q hq e => by
      obtain ⟨x, hx, rfl⟩ := List.mem_map.mp hq
      exact k3 (e ▸ hx)
    refine j_setD (hkv.le l7) (le_line (by rw [hps.length, List.length_map, List.length_take]; omega)) fun o' ho' => ?_
    rw [stored_new hkk] at ho'
    walk_at "jx"
    refine hPn _ (.mk _ _ _ _ _ (le_setN (PH.le_trans hle5 l7) q6) ho' ?_)
    have := hpx.snoc hr (wf hr) ts
    rw [take_snoc' hpm, List.map_append]
    rw [List.map_map] at this
    subst hrd
    exact this
  · rintro _ ⟨H5, kvs, oh, ob, hle5, hkv, hps⟩
    have hkl : kvs.length = S.length := by rw [hps.length, List.length_map, List.length_take, List.length_map, hpS, Nat.min_self]
    walk_at "js"
    refine j_cell (by rfl) (q5.le hle5) ?_ (by rfl) (by rfl) (by decide)
    walk_at "js"
    refine j_lenD hkv (by rw [hkl]; omega) fun _ => ?_
    walk_at "js"
    refine j_lenL (q4.le hle5) (by rw [hsi.length]; omega) fun _ => ?_
    walk_at "js"
    rw [hkl, hsi.length]
    refine ⟨fun hc => by simp at hc, fun _ => ?_⟩
    walk_at "js"
    refine j_cell (by rfl) (q5.le hle5) ?_ (by rfl) (by rfl) (by decide)
    refine h d kvs H5 (PH.le_trans q1 hle5) hkv ?_
    rw [List.take_of_length_le (by rw [List.length_map]; exact Nat.le_refl _)] at hps
    exact hps
end
end Mine


namespace Mine
section
variable {C : Cx} {σ : Sg} {n : Nat}
theorem DL.at {H : PH} {d : Addr} {kvs : List (Int × Value)} (h : DL C H d kvs) : ∃ o es ep, H d = some o ∧ o.ExactDict ∧ o.data = .dict es ep ∧ KeysOf (intKind PySem.Challenge.pw_sw0062_01 C.w) es ∧ PySem.Pairs (intKind PySem.Challenge.pw_sw0062_01 C.w) es.toList kvs ∧ (kvs.map (·.1)).Nodup := let ⟨_, o, e, es, ep, r⟩ := h; ⟨o, es, ep, e, r⟩
theorem j_gmValues {d : Addr} {kvs : List (Int × Value)} {pl : Sem Bool} {p : Pos} {tr : List (Bool × Sem Value)} {kw : List (Option Str × Sem Value)} {R : Value → Sg → Prop} (hD : DL C σ.H d kvs) (h : J C (callWith p (.builtin "dict.values") [.ref d] tr kw) σ R) :
    J C (getMethod (.ref d) (Str.ofString "values") pl) σ fun fx σ₂ => J C (callWith p fx.1 fx.2 tr kw) σ₂ R :=
  j_mk fun s Q hs q => getMethod_builtin (hs.isDict hD).typeIs PySem.F.plainAttrs_dict PySem.F.slot_dict_values PySem.F.type_dict_values (hs.isDict hD).mapOf.noDict (q (Value.builtin "dict.values", [Value.ref d]) σ s.heap s.toks hs .refl h)
def valView (d : Addr) : Obj := { cls := .type "dict_values", data := .fields #[.ref d] }
theorem j_values {vs : List (Option Value)} {H : PH} {d : Addr} {kvs : List (Int × Value)} {R : Value → Sg → Prop} (hD : DL C H d kvs) (h : ∀ v, H v = none → R (.ref v) ⟨vs, H.set v (valView d)⟩) : J C (PySem.call (.builtin "dict.values") [.ref d]) ⟨vs, H⟩ R :=
  j_mk fun s Q hs q => call_meetsIn PySem.F.slot_dict_values (hs.isDict hD).typeIs PySem.F.entry_dict_values (PySem.F.args_dict_values_1 _) (meets_dict_values (intKind PySem.Challenge.pw_sw0062_01 C.w) d hD.1) ⟨⟨kvs, hs.isDict hD⟩, q _ _ _ s.toks (hs.push (valView d) rfl) (Fram.push hs _) (h _ hs.newAt)⟩
/-- the values of a dict that stands as it is -/
def ValIt (it d : Addr) (N ep : Nat) (i : Nat) (F : PH) : Prop := ∃ o : Obj, F = PH.one it o ∧ o.cls = .type "dict_valueiterator" ∧ o.data = .fields #[.ref d, .int (i : Int) 0, .int (N : Int) 0, .int (ep : Int) 0]
def DAt (C : Cx) (H : PH) (d : Addr) (kvs : List (Int × Value)) (ep : Nat) : Prop := ∃ o es, H d = some o ∧ o.ExactDict ∧ o.data = .dict es ep ∧ KeysOf (intKind PySem.Challenge.pw_sw0062_01 C.w) es ∧ PySem.Pairs (intKind PySem.Challenge.pw_sw0062_01 C.w) es.toList kvs ∧ (kvs.map (·.1)).Nodup
theorem DAt.le {H H' : PH} {d : Addr} {kvs : List (Int × Value)} {ep : Nat} (h : DAt C H d kvs ep) (l : H.le H') : DAt C H' d kvs ep := let ⟨o, es, e, r⟩ := h; ⟨o, es, l _ _ e, r⟩
theorem St.dAt {h : Heap} (hs : St C σ h) {d : Addr} {kvs : List (Int × Value)} {ep : Nat} (hD : DAt C σ.H d kvs ep) : h.DictAt (intKind PySem.Challenge.pw_sw0062_01 C.w) d kvs ep := let ⟨o, es, e, r⟩ := hD; ⟨o, es, hs.get e, r⟩
theorem iter_vals {it d : Addr} {kvs : List (Int × Value)} {ep : Nat} (O : Ok C n) : Iter C (.ref it) kvs.length (fun i v => ∃ k, kvs[i]? = some (k, v)) (fun H => DAt C H d kvs ep) (ValIt it d kvs.length ep) where
  next := by
    rintro i vs H F hi hl hj ⟨o, rfl, oc, od⟩
    have hn := disj_at hj
    refine j_mk fun s Q hs q => ?_
    have hit : (H.both (PH.one it o)) it = some o := by rw [PH.both_right hn, PH.one_self]
    refine wpAny_pyNext_values_item (k := kvs[i].1) (v := kvs[i].2) ⟨o, hs.get hit, oc, od⟩ (hs.dAt (hl.le le_both)) (by simp [hi]) fun h' hl' hsb => ?_
    obtain ⟨o', e', oc', od'⟩ := hl'
    have := q (some kvs[i].2) ⟨vs, (H.both (PH.one it o)).set it o'⟩ h' s.toks (hs.upd hit (fun b ob hb eb => (hsb.2 b hb).trans eb) e') (Fram.upd hit fun b ob hb eb => (hsb.2 b hb).trans eb)
      ⟨kvs[i].2, PH.one it o', rfl, ⟨kvs[i].1, by simp [hi]⟩, ⟨o', rfl, oc', by simpa using od'⟩, disj_one hn, by rw [both_set_one hn]⟩
    exact this
  stop := by
    rintro vs H F hl hj ⟨o, rfl, oc, od⟩
    have hn := disj_at hj
    have hit : (H.both (PH.one it o)) it = some o := by rw [PH.both_right hn, PH.one_self]
    exact j_stop hn ⟨rfl, rfl⟩ fun s Q hs q => wpAny_pyNext_values_end O.hh ⟨o, hs.get hit, oc, od⟩ (hs.dAt (hl.le le_both)) (by simp) q
  own := by
    rintro i vs H F target v hj ⟨o, rfl, oc, od⟩
    have hn := disj_at hj
    have hit : (H.both (PH.one it o)) it = some o := by rw [PH.both_right hn, PH.one_self]
    refine j_same (a := ()) rfl fun s Q hs q => ?_
    have go : wpAny (model PySem.Challenge.pw_sw0062_01 C.w) C.A (Pure.pure () : Sem Unit) Q (fun _ _ => False) s := wpAny_pure (q s.toks)
    unfold letOwnedTupleGo
    split
    · cases v with
      | ref a =>
        refine wpAny_bind (wpAny_load (hs.get hit) ?_)
        rw [oc, od]
        exact go
      | _ => exact go
    · cases v with
      | ref a =>
        refine wpAny_bind (wpAny_load (hs.get hit) ?_)
        rw [oc, od]
        exact go
      | _ => exact go
    · exact go
  self := by
    rintro i vs H F hj ⟨o, rfl, oc, od⟩
    have hn := disj_at hj
    have hit : (H.both (PH.one it o)) it = some o := by rw [PH.both_right hn, PH.one_self]
    exact j_same (a := Value.ref it) ⟨rfl, rfl⟩ fun s Q hs q => wpAny_pyIter_valiter ⟨o, hs.get hit, oc, od⟩ (q s.toks)
theorem j_iterVals {vs : List (Option Value)} {H : PH} {v d : Addr} {kvs : List (Int × Value)} {ep : Nat} {R : Value → Sg → Prop} (hv : H v = some (valView d)) (hD : DAt C H d kvs ep)
    (h : ∀ it F, Disj F H → ValIt it d kvs.length ep 0 F → R (.ref it) ⟨vs, H.both F⟩) : J C (pyIter (.ref v)) ⟨vs, H⟩ R :=
  j_mk fun s Q hs q => by
    refine wpAny_pyIter_values ⟨_, hs.get hv, rfl, rfl⟩ (hs.dAt hD) ?_
    have := q _ _ _ s.toks (hs.push { cls := .type "dict_valueiterator", data := .fields #[.ref d, .int 0 0, .int kvs.length 0, .int ep 0] } rfl) (Fram.push hs _) (set_one hs.newAt ▸ h s.heap.objs.size (PH.one s.heap.objs.size _) (disj_one hs.newAt) ⟨_, rfl, rfl, rfl⟩)
    exact this
theorem j_isInt {a : Int} {t : Tok} {R : Value → Sg → Prop} (h : R (.bool true) σ) : J C (PySem.call (.builtin "isinstance") [.int a t, .type "int"]) σ R := j_mk fun s Q hs q => IsiPair.int_int (q _ σ s.heap s.toks hs .refl h)
theorem pairs_at {kb : List (Int × Value)} {pb : List (Int × Int)} (h : PairsAre kb pb) (hn : (pb.map (·.1)).Nodup) {k v : Int} (hk : (k, v) ∈ pb) : ∃ t, valueAt kb k = some (.int v t) := by
  obtain ⟨l, rfl, rfl⟩ := h
  unfold valueAt
  induction l with
  | nil => cases hk
  | cons q l ih =>
    rw [List.map_cons, List.find?_cons]
    rw [List.map_cons, List.map_cons] at hn
    obtain ⟨h1, h2⟩ := List.nodup_cons.mp hn
    rcases List.mem_cons.mp hk with e | hk
    · cases e
      rw [show decide (q.1 = q.1) = true from decide_eq_true rfl]
      exact ⟨q.2.2, rfl⟩
    · have hne : ¬ q.1 = k := fun e => h1 (e ▸ List.mem_map.mpr ⟨_, hk, rfl⟩)
      rw [show decide (q.1 = k) = false from decide_eq_false hne]
      exact ih h2 hk
theorem hits_of {A : Around} {s : Shared} {kb : List (Int × Value)} {pb : List (Int × Int)} (hb : PairsAre kb pb) (hn : (pb.map (·.1)).Nodup) : ∀ {l : List (Int × Int × Tok)}, (∀ q ∈ l, (q.1, q.2.1) ∈ pb) → KeqHits A s kb (l.map fun q => (q.1, .int q.2.1 q.2.2)) true
  | [], _ => .nil
  | q :: l, h => by
    obtain ⟨t, e⟩ := pairs_at hb hn (h q List.mem_cons_self)
    have := KeqHits.hit e ((PySem.MeetsSeq.EqGives.int q.2.1 q.2.1 q.2.2 t).at A s) (hits_of hb hn fun q' h' => h q' (List.mem_cons_of_mem _ h'))
    rw [beq_self_eq_true] at this
    exact this
theorem j_eqD {a b : Addr} {ka kb : List (Int × Value)} {pa pb : List (Int × Int)} {R : Value → Sg → Prop} (O : Ok C n) (ha : DL C σ.H a ka) (hb : DL C σ.H b kb) (hpa : PairsAre ka pa) (hpb : PairsAre kb pb) (hl : pa.length = pb.length) (hh : ∀ p ∈ pa, p ∈ pb) (hn : (pb.map (·.1)).Nodup) (h : R (.bool true) σ) : J C (compareOp .Eq (.ref a) (.ref b)) σ R :=
  j_mk fun s Q hs q => keq_eq (r := true) ha.1 hb.1 (hs.isDict ha) (hs.isDict hb) (by have := O.units; omega) (fun _ => by
    obtain ⟨l, rfl, rfl⟩ := hpa
    exact hits_of hpb hn fun q hq => hh _ (List.mem_map.mpr ⟨q, hq, rfl⟩)) (by
    rw [hpa.length, hpb.length, hl, beq_self_eq_true]
    exact q _ σ s.heap s.toks hs .refl h)
end
end Mine

namespace Mine
def wsAt (xs : List Str) (i : Nat) : List Nat := (xs.getD i Str.empty).cps.toList
def ownOf (xs : List Str) : List Nat := (hungTo (fun a b => lessB (wsAt xs a) (wsAt xs b)) 5).1
def pathsOf (xs : List Str) : List (List Nat) := pathsTo (ownOf xs) 5
def linesOf (xs : List Str) : List (List Nat) := linesTo (ownOf xs) (fun k => (wsOf (wsAt xs k)).2.2.2) 5
def oddOf (xs : List Str) : List Bool := xs.map fun x => (Txt.count x (Str.ofString "\t")).fmod 2 == 1
/-- what the plain law must show of a page's leads -/
structure PageLaw (xs : List Str) : Prop where
  page : PageOk (pathsOf xs) (linesOf xs)
  top : ∀ m, 1 ≤ m → m < 6 → notBelow (cols (wsAt xs 0)) (cols (wsAt xs m)) = false
  own : (scanned fun i j => notBelow (cols (wsAt xs i)) (cols (wsAt xs j))) = (0 :: ownOf xs).map fun (k : Nat) => (k : Int)
  len : (0 :: ownOf xs).length = 6
  low : ∀ k, (0 :: ownOf xs).getD k 0 < 6
  game : ∃ S W p wf, playGo (cutsTo (pathsOf xs) (linesOf xs) 5) 40 [62] [] = some (S, W) ∧ W.length = S.length ∧ 2 ≤ S.length ∧ S.length < 64 ∧ (∀ i j, i < S.length → j < S.length → i ≠ j → S.getD i 0 ≠ S.getD j 0) ∧
    runOk (fun i j => decide (S.getD i 0 < S.getD j 0)) S.length (kas_sort S.length) = some p ∧ p.toList.length = S.length ∧ (∀ i ∈ p.toList, i < S.length) ∧ goodT wf [] (p.toList.map fun i => (S.getD i 0, W.getD i ([], []))) = true ∧
    (p.toList.map fun i => (S.getD i 0, wf (S.getD i 0))).length = (dueOf (0 :: ownOf xs) (oddOf xs)).length ∧ ∀ q ∈ p.toList.map fun i => (S.getD i 0, wf (S.getD i 0)), q ∈ dueOf (0 :: ownOf xs) (oddOf xs)
theorem dueOf_nodup (owners : List Nat) (odd : List Bool) : ((dueOf owners odd).map (·.1)).Nodup := by
  have e : (dueOf owners odd).map (·.1) = heres.filter fun h => !dueBad owners h := by unfold dueOf; rw [List.map_map]; exact List.map_id _
  rw [e]
  exact List.Pairwise.filter _ (show heres.Nodup by decide)
theorem PairsAre.val {kvs : List (Int × Value)} {ps : List (Int × Int)} (h : PairsAre kvs ps) {i : Nat} {k : Int} {v : Value} (e : kvs[i]? = some (k, v)) : ∃ x t, v = .int x t := by
  obtain ⟨l, rfl, _⟩ := h
  rw [List.getElem?_map] at e
  cases e2 : l[i]? with
  | none => rw [e2] at e; cases e
  | some q => rw [e2] at e; cases e; exact ⟨_, _, rfl⟩
theorem cutsTo_low {ps ls : List (List Nat)} : ∀ {i : Nat}, i ≤ 5 → ∀ c ∈ cutsTo ps ls i, 0 ≤ c.1 ∧ c.1 ≤ 5
  | 0, _, _, h => nomatch h
  | i + 1, hi, c, h => by
    rcases List.mem_append.mp h with h | h
    · exact cutsTo_low (Nat.le_of_succ_le hi) c h
    · rw [List.mem_singleton.mp h]
      exact ⟨Int.natCast_nonneg _, Int.ofNat_le.mpr hi⟩
section
variable {f : Addr} {name qual : Str} {params : Arguments} {body : List Stmt} {scope : Scope} {dV kV doc pm cdv ct oc : Value} {an od : Option Addr} {osl : Array (Option Value)} {vals : List Value} {rest : List Str} {n : Nat}
/-- the law itself is called from no frame -/
theorem top_call {w : World} {s : Shared} {R : Value → PH → Prop} (ns : List Str) (vs₀ : List (Option Value)) (X : (Mine.HeapK w.params).In s.heap) (T : ∃ mean mg mb, Top Mine.ViewQ (looseW Mine.ViewQ [Str.ofString "Whitespace"]) mean mg mb s.heap)
    (hdp : callerA.depth + (n + 1) < recursionLimit) (hun : callerA.units + 20 * (n + 1) + 200 < cLine)
    (ho : (Mine.HeapK w.params).lookup f = some ⟨oc, od, .func (fnOf name qual params body scope dV kV doc pm an cdv ct), osl⟩) (hcd : codeIn (Mine.HeapK w.params) cdv qual = true)
    (hbind : bindArgs (fnOf name qual params body scope dV kV doc pm an cdv ct) ⟨vals, []⟩ = pure ((params.args.map (·.arg)).zip vals)) (hlen : (params.args.map (·.arg)).length = vals.length)
    (hloc : ∀ y ∈ (params.args.map (·.arg)).zip vals, scope.names.lookup y.1 = some .local) (hns : params.args.map (·.arg) ++ rest = ns) (hvs : vals.map some ++ rest.map (fun _ => none) = vs₀) (hnd : ns.Nodup) (hcell : ∀ x ∈ scope.names, x.2 ≠ .cell)
    (hco : scope.isCoroutine = false) (hgen : scope.isGenerator = false) (hk : scope.kind = .function)
    (h : ∀ A' base' L', base' = s.heap → Ok ⟨w, A', base', L', ns⟩ n → J ⟨w, A', base', L', ns⟩ (execs body (envOf qual scope L' f cdv)) ⟨vs₀, PH.nil⟩
      (fun fl σ' => R (match fl with | .ret v => v | _ => .none) σ'.H)) :
    wpAny (model PySem.Challenge.pw_sw0062_01 w) callerA (PySem.call (.ref f) vals) (fun v s' => ∃ H h' tk', s' = { s with heap := h', toks := tk' } ∧ (∀ b o, s.heap.get? b = some o → h'.get? b = some o) ∧ R v H) (fun _ _ => False) s := by
  subst hns hvs
  refine wpAny_call ?_
  obtain ⟨mean, mg, mb, T⟩ := T
  refine codeAny_call_def (fd := fnOf name qual params body scope dV kV doc pm an cdv ct) (body := body) (by omega) (X _ _ ho) rfl T.nolimit (codeRec_of X hcd) rfl (BindsTo.of_eq hbind) hcell hloc (fun h₁ hns hk₁ => ?_) hco hgen hk
  have O' : Ok ⟨w, callerA.deeper (callEnv (fnOf name qual params body scope dV kV doc pm an cdv ct) s.heap.objs.size f), s.heap, s.heap.objs.size, params.args.map (·.arg) ++ rest⟩ n :=
    ⟨X, ⟨mean, mg, mb, T⟩, rfl, by show callerA.depth + 1 + n < _; omega, by show callerA.units + 3 + 20 * n + 200 < _; omega, hnd⟩
  have hs' : St ⟨w, callerA.deeper (callEnv (fnOf name qual params body scope dV kV doc pm an cdv ct) s.heap.objs.size f), s.heap, s.heap.objs.size, params.args.map (·.arg) ++ rest⟩
      ⟨vals.map some ++ rest.map (fun _ => none), PH.nil⟩ h₁ := by
    refine ⟨⟨?_, hk₁, Nat.le_refl _⟩, fun a o e => nomatch e⟩
    have e : (fun x => ((params.args.map (·.arg)).zip vals).reverse.lookup x) = look (params.args.map (·.arg) ++ rest) (vals.map some ++ rest.map fun _ => none) := funext (look_zip _ _ _ hlen hnd)
    rw [← e]; exact hns
  exact j_use (h _ _ _ rfl O') (s := { s with heap := h₁, toks := s.toks + ((params.args.map (·.arg)).zip vals).length }) hs' fun fl σ' h' tk' hs'' hf r =>
    ⟨σ'.H, h', tk', rfl, hs''.fr.keep, r⟩
end
section
variable {n : Nat}
theorem f_law {w : World} {s : Shared} {sr : Addr} {si : List Value} {ns : List Int} (X : (Mine.HeapK w.params).In s.heap) (T : ∃ mean mg mb, Top Mine.ViewQ (looseW Mine.ViewQ [Str.ofString "Whitespace"]) mean mg mb s.heap)
    (hl : s.heap.IsList sr si.toArray) (hi : IntsAre si ns) (hz : si.length ≤ sizeLine) (hP : ∀ xs, LeadsOk xs → xs.length = 6 → PageLaw xs) :
    wpAny (model PySem.Challenge.pw_sw0062_01 w) callerA (PySem.call (.ref 250) [.ref sr]) (fun v s' => ∃ (H : PH) (h' : Heap) (tk' : Tok), s' = { s with heap := h', toks := tk' } ∧ (∀ b o, s.heap.get? b = some o → h'.get? b = some o) ∧ v = .bool true) (fun _ _ => False) s := by
  refine top_call (n := 5) (R := fun v _ => v = .bool true) (rest := [Str.ofString "leads", Str.ofString "paths", Str.ofString "lines", Str.ofString "told", Str.ofString "odd"]) [Str.ofString "script", Str.ofString "leads", Str.ofString "paths", Str.ofString "lines", Str.ofString "told", Str.ofString "odd"] [some (.ref sr), none, none, none, none, none] X T (by decide) (by decide) (by k_is) (by k_is) (by rfl) (by rfl) (locs rfl) (by rfl) (by rfl) (by decide) (by decide) rfl rfl rfl fun A' base' L' eb O' => ?_
  subst eb
  walk_at "jx"
  refine f_leads O' hl hi hz fun la items xs H1 l1 hpl hst h6 hok => ?_
  have P := hP xs hok h6
  obtain ⟨S, W, p, wf, g1, g2, g3, g4, g5, g6, g7, g8, g9, g10, g11⟩ := P.game
  walk_at "jx"
  refine f_hung O' hpl.il hst h6 hok.1 fun tp pa pv ln lv H2 l2 ht hpa hla hps hls => ?_
  refine j_unpack2 O' ht.ti ?_
  walk_at "jx"
  refine f_cuts O' hpa.il hla.il hps hls P.page fun ca cv H3 l3 hca hcs => ?_
  walk_at "jx"
  refine f_played O' hca.il hcs (by rw [cutsTo_length]; exact Nat.le_refl _) (cutsTo_low (Nat.le_refl 5)) g1 g2 g3 g4 g5 g6 g7 g8 g9 fun d kvs H4 l4 hD hkv => ?_
  have hpl4 := hpl.le (PH.le_trans l2 (PH.le_trans l3 l4))
  have l14 := PH.le_trans l1 (PH.le_trans l2 (PH.le_trans l3 l4))
  walk_at "jx"
  refine j_if ?_
  walk_at "jx"
  refine j_comp (n := 5) O' (cl := []) (ns := [Str.ofString "x"]) (by rfl) (by decide) rfl (by decide) (by decide) (by intro _; rfl) ?_
  walk_at "jx"
  refine j_gmValues hD ?_
  walk_at "jx"
  refine j_values hD fun vv hvv => ?_
  obtain ⟨od, es, ep, hde, hdr⟩ := hD.at
  have hDA : DAt ⟨w, A', s.heap, L', [Str.ofString "script", Str.ofString "leads", Str.ofString "paths", Str.ofString "lines", Str.ofString "told", Str.ofString "odd"]⟩ H4 d kvs ep := ⟨od, es, hde, hdr⟩
  have hkl : kvs.length = S.length := by rw [hkv.length, List.length_map]; exact g7
  refine j_iterVals PH.set_self (hDA.le (PH.le_set hvv)) fun it F hF hIt => ?_
  refine compAt_iter (n := 5) (by rw [hkl]; omega) (fun _ _ h => h.le le_both) (fun base' L'' O'' => iter_vals O'') hF hIt (fun i ys Hc => H4.le Hc ∧ ys = []) ⟨PH.le_set hvv, rfl⟩ (fun _ _ _ h => hDA.le h.1) ?_ ?_
  · rintro base' L'' O'' j ys Hc v vs' hj hvl ⟨hleC, rfl⟩ ⟨kk, hv⟩
    obtain ⟨v1, rfl⟩ : ∃ v1, vs' = [v1] := by
      rcases vs' with _ | ⟨a1, _ | ⟨_, _⟩⟩
      · cases hvl
      · exact ⟨_, rfl⟩
      · cases hvl
    obtain ⟨vi, ti, rfl⟩ := hkv.val hv
    walk_at "jx"
    refine j_tests1 (j_mono (R := fun ok σ' => ok = false ∧ σ' = ⟨[some (.int vi ti)], Hc⟩) ?_ ?_)
    · walk_at "jx"
      refine j_isInt ?_
      walk_at "jx"
      exact ⟨rfl, rfl⟩
    rintro ok _ ⟨rfl, rfl⟩
    exact ⟨(fun hc => nomatch hc), fun _ => ⟨rfl, hleC, rfl⟩⟩
  rintro D ys Hd kd hDn ⟨hleC, rfl⟩
  walk_at "jx"
  refine j_newList (le_line (by simp)) fun en hen => ?_
  refine j_neLI O' (PL.new.il.le (PH.le_set hen)) PL.new.il .nil .nil ?_
  rw [show (!decide (([] : List Int) = [])) = false from rfl]
  refine j_gen (H₀ := H4) (PH.le_trans hleC (PH.le_trans (PH.le_set hDn) (PH.le_set hen))) fun H5 l5 => ?_
  refine j_truthyBool ⟨(fun hc => nomatch hc), fun _ => ?_⟩
  walk_at "jx"
  have hil : items.length = 6 := (items_len hst).trans h6
  refine j_setComp (n := 5) O' (cl := []) (ns := [Str.ofString "lead"]) (by rfl) (by rfl) (by decide) rfl (by decide) (by decide) (by intro _; rfl) ?_
  walk_at "jx"
  refine j_iterList O' (hpl4.il.le l5) fun it2 F2 hF2 hIt2 => ?_
  refine compAt_iter (n := 5) (by rw [hil]; decide) (fun _ _ h => h.le le_both) (fun base' L'' O'' => iter_list O'') hF2 hIt2 (fun i ys Hc => H5.le Hc ∧ ys = ((oddOf xs).take i).map Value.bool) ⟨PH.le_refl _, rfl⟩ (fun _ _ _ h => hpl4.il.le (PH.le_trans l5 h.1)) ?_ ?_
  · rintro base' L'' O'' j ys Hc v vs' hj hvl ⟨hleC, rfl⟩ hv
    obtain ⟨v1, rfl⟩ : ∃ v1, vs' = [v1] := by
      rcases vs' with _ | ⟨a1, _ | ⟨_, _⟩⟩
      · cases hvl
      · exact ⟨_, rfl⟩
      · cases hvl
    have hj6 : j < xs.length := by rw [h6, ← hil]; exact hj
    obtain ⟨t, e⟩ := strs_at hst hj6
    rw [Int.toNat_natCast, hv] at e
    cases e
    walk_at "jx"
    refine j_tests0 ⟨fun _ => ?_, (fun hh => nomatch hh)⟩
    walk_at "jx"
    refine j_modI (by decide) fun _ => ?_
    walk_at "jx"
    refine ⟨rfl, hleC, ?_⟩
    rw [take_snoc' (l := oddOf xs) (i := j) (c := (Txt.count (xs.getD j Str.empty) (Str.ofString "\t")).fmod 2 == 1) (by unfold oddOf; rw [List.getElem?_map, List.getD_eq_getElem?_getD, List.getElem?_eq_getElem hj6]; rfl), List.map_append]
    rfl
  rintro D2 ys2 Hd2 kd2 hD2 ⟨hleC2, rfl⟩
  rw [List.take_of_length_le (by unfold oddOf; rw [List.length_map, hil, h6]; exact Nat.le_refl _)]
  have l6 := PH.le_trans hleC2 (PH.le_set (o := listOf ((oddOf xs).map Value.bool).toArray kd2) hD2)
  have hod := (PL.new (H := Hd2) (a := D2) (items := (oddOf xs).map Value.bool) (n := kd2)).il
  generalize Hd2.set D2 (listOf ((oddOf xs).map Value.bool).toArray kd2) = H6 at l6 hod
  replace l6 := PH.le_trans l5 l6
  walk_at "jx"
  refine f_owners O' (hpl4.il.le l6) hst h6 (fun x hx => (hok.1 x hx).ascii) P.top fun oa oi H7 l7 hpo hoi => ?_
  have hoi' : IntsAre oi ((0 :: ownOf xs).map fun (k : Nat) => (k : Int)) := P.own ▸ hoi
  walk_at "jx"
  refine f_due O' hpo.il hoi' P.len P.low (hod.le l7) (by unfold oddOf; rw [List.length_map]; exact h6) fun d2 kv2 H8 l8 hD2 hkv2 => ?_
  refine j_eqD O' (hD.le (PH.le_trans l6 (PH.le_trans l7 l8))) hD2 hkv hkv2 g10 g11 (dueOf_nodup _ _) ?_
  walk_at "jx"
  rfl
end
end Mine

namespace Mine
/-! the plain law, 1: less is the columns' order; the rows are hung by it -/
def longD (a : List Int × Nat × Nat × Nat) : Int := max ((a.1.length : Int) - 1) (a.2.1 : Int)
def indD (a : List Int × Nat × Nat × Nat) (ts : Nat) : Int := (a.2.1 : Int) + (ts : Int) * (ilGo a.1 ts (a.1.length - ts) + (a.2.2.2 : Int))
def lessD (a b : List Int × Nat × Nat × Nat) : Bool :=
  if b.2.2.1 ≤ a.2.2.1 then false
  else if a.1.length ≤ 1 ∧ b.1.length ≤ 1 then decide (a.2.2.2 ≤ b.2.2.2)
  else (List.range (max (longD a) (longD b)).toNat).all fun j => decide (indD a (2 + j) < indD b (2 + j))
theorem lessB_D (v w : List Nat) : lessB v w = lessD (wsOf v) (wsOf w) := rfl
def kinds : List ((List Int × Nat × Nat × Nat) × List Int) := [(([], 0, 0, 0), [0, 0, 0, 0, 0, 0, 0]), (([], 1, 1, 0), [1, 1, 1, 1, 1, 1, 1]), (([1], 0, 1, 1), [1, 2, 3, 4, 5, 6, 7]), (([], 2, 2, 0), [2, 2, 2, 2, 2, 2, 2]), (([1], 1, 2, 1), [2, 3, 4, 5, 6, 7, 8]), (([0, 1], 0, 2, 1), [2, 2, 3, 4, 5, 6, 7]), (([2], 0, 2, 2), [2, 4, 6, 8, 10, 12, 14]), (([], 3, 3, 0), [3, 3, 3, 3, 3, 3, 3]), (([1], 2, 3, 1), [3, 4, 5, 6, 7, 8, 9]), (([0, 1], 1, 3, 1), [3, 3, 4, 5, 6, 7, 8]), (([2], 1, 3, 2), [3, 5, 7, 9, 11, 13, 15]), (([0, 0, 1], 0, 3, 1), [3, 4, 3, 4, 5, 6, 7]), (([1, 1], 0, 3, 2), [3, 4, 6, 8, 10, 12, 14]), (([3], 0, 3, 3), [3, 6, 9, 12, 15, 18, 21]), (([], 4, 4, 0), [4, 4, 4, 4, 4, 4, 4]), (([1], 3, 4, 1), [4, 5, 6, 7, 8, 9, 10]), (([0, 1], 2, 4, 1), [4, 4, 5, 6, 7, 8, 9]), (([2], 2, 4, 2), [4, 6, 8, 10, 12, 14, 16]), (([0, 0, 1], 1, 4, 1), [4, 5, 4, 5, 6, 7, 8]), (([1, 1], 1, 4, 2), [4, 5, 7, 9, 11, 13, 15]), (([3], 1, 4, 3), [4, 7, 10, 13, 16, 19, 22]), (([0, 0, 0, 1], 0, 4, 1), [4, 4, 6, 4, 5, 6, 7]), (([1, 0, 1], 0, 4, 2), [4, 6, 6, 8, 10, 12, 14]), (([0, 2], 0, 4, 2), [4, 4, 6, 8, 10, 12, 14]), (([2, 1], 0, 4, 3), [4, 6, 9, 12, 15, 18, 21]), (([4], 0, 4, 4), [4, 8, 12, 16, 20, 24, 28]), (([], 5, 5, 0), [5, 5, 5, 5, 5, 5, 5]), (([1], 4, 5, 1), [5, 6, 7, 8, 9, 10, 11]), (([0, 1], 3, 5, 1), [5, 5, 6, 7, 8, 9, 10]), (([2], 3, 5, 2), [5, 7, 9, 11, 13, 15, 17]), (([0, 0, 1], 2, 5, 1), [5, 6, 5, 6, 7, 8, 9]), (([1, 1], 2, 5, 2), [5, 6, 8, 10, 12, 14, 16]), (([3], 2, 5, 3), [5, 8, 11, 14, 17, 20, 23]), (([0, 0, 0, 1], 1, 5, 1), [5, 5, 7, 5, 6, 7, 8]), (([1, 0, 1], 1, 5, 2), [5, 7, 7, 9, 11, 13, 15]), (([0, 2], 1, 5, 2), [5, 5, 7, 9, 11, 13, 15]), (([2, 1], 1, 5, 3), [5, 7, 10, 13, 16, 19, 22]), (([4], 1, 5, 4), [5, 9, 13, 17, 21, 25, 29])] ++
  [(([0, 0, 0, 0, 1], 0, 5, 1), [5, 6, 6, 8, 5, 6, 7]), (([1, 0, 0, 1], 0, 5, 2), [5, 6, 9, 8, 10, 12, 14]), (([0, 1, 1], 0, 5, 2), [5, 6, 6, 8, 10, 12, 14]), (([2, 0, 1], 0, 5, 3), [5, 8, 9, 12, 15, 18, 21]), (([1, 2], 0, 5, 3), [5, 6, 9, 12, 15, 18, 21]), (([3, 1], 0, 5, 4), [5, 8, 12, 16, 20, 24, 28]), (([5], 0, 5, 5), [5, 10, 15, 20, 25, 30, 35]), (([], 6, 6, 0), [6, 6, 6, 6, 6, 6, 6]), (([1], 5, 6, 1), [6, 7, 8, 9, 10, 11, 12]), (([0, 1], 4, 6, 1), [6, 6, 7, 8, 9, 10, 11]), (([2], 4, 6, 2), [6, 8, 10, 12, 14, 16, 18]), (([0, 0, 1], 3, 6, 1), [6, 7, 6, 7, 8, 9, 10]), (([1, 1], 3, 6, 2), [6, 7, 9, 11, 13, 15, 17]), (([3], 3, 6, 3), [6, 9, 12, 15, 18, 21, 24]), (([0, 0, 0, 1], 2, 6, 1), [6, 6, 8, 6, 7, 8, 9]), (([1, 0, 1], 2, 6, 2), [6, 8, 8, 10, 12, 14, 16]), (([0, 2], 2, 6, 2), [6, 6, 8, 10, 12, 14, 16]), (([2, 1], 2, 6, 3), [6, 8, 11, 14, 17, 20, 23]), (([4], 2, 6, 4), [6, 10, 14, 18, 22, 26, 30]), (([0, 0, 0, 0, 1], 1, 6, 1), [6, 7, 7, 9, 6, 7, 8]), (([1, 0, 0, 1], 1, 6, 2), [6, 7, 10, 9, 11, 13, 15]), (([0, 1, 1], 1, 6, 2), [6, 7, 7, 9, 11, 13, 15]), (([2, 0, 1], 1, 6, 3), [6, 9, 10, 13, 16, 19, 22]), (([1, 2], 1, 6, 3), [6, 7, 10, 13, 16, 19, 22]), (([3, 1], 1, 6, 4), [6, 9, 13, 17, 21, 25, 29]), (([5], 1, 6, 5), [6, 11, 16, 21, 26, 31, 36]), (([0, 0, 0, 0, 0, 1], 0, 6, 1), [6, 6, 6, 8, 10, 6, 7]), (([1, 0, 0, 0, 1], 0, 6, 2), [6, 8, 9, 12, 10, 12, 14]), (([0, 1, 0, 1], 0, 6, 2), [6, 6, 9, 8, 10, 12, 14]), (([2, 0, 0, 1], 0, 6, 3), [6, 8, 12, 12, 15, 18, 21]), (([0, 0, 2], 0, 6, 2), [6, 8, 6, 8, 10, 12, 14]), (([1, 1, 1], 0, 6, 3), [6, 8, 9, 12, 15, 18, 21]), (([3, 0, 1], 0, 6, 4), [6, 10, 12, 16, 20, 24, 28]), (([0, 3], 0, 6, 3), [6, 6, 9, 12, 15, 18, 21]), (([2, 2], 0, 6, 4), [6, 8, 12, 16, 20, 24, 28]), (([4, 1], 0, 6, 5), [6, 10, 15, 20, 25, 30, 35]), (([6], 0, 6, 6), [6, 12, 18, 24, 30, 36, 42])]
theorem kinds_all : ((words 6).all fun w => kinds.contains (wsOf w, cols w)) = true := by decide +kernel
theorem kinds_less : (kinds.all fun p => kinds.all fun q => lessD p.1 q.1 == !notBelow p.2 q.2) = true := by decide +kernel
theorem words_top : ((words 6).all fun w => w.isEmpty || !notBelow (cols []) (cols w)) = true := by decide +kernel
theorem kind_of {w : List Nat} (h : w ∈ words 6) : (wsOf w, cols w) ∈ kinds := List.contains_iff_mem.mp (List.all_eq_true.mp kinds_all w h)
theorem less_cols {v w : List Nat} (hv : v ∈ words 6) (hw : w ∈ words 6) : lessB v w = !notBelow (cols v) (cols w) :=
  (lessB_D v w).trans (eq_of_beq (List.all_eq_true.mp (List.all_eq_true.mp kinds_less _ (kind_of hv)) _ (kind_of hw)))
theorem below_trans : ∀ {a b c : List Int}, a.length = b.length → b.length = c.length → notBelow a b = false → notBelow b c = false → notBelow a c = false
  | [], _, _, _, _, _, _ => rfl
  | x :: a, y :: b, z :: c, h1, h2, e1, e2 => by
    unfold notBelow at e1 e2 ⊢
    simp only [List.zip_cons_cons, List.any_cons, Bool.or_eq_false_iff, decide_eq_false_iff_not] at e1 e2 ⊢
    exact ⟨by omega, below_trans (Nat.succ.inj h1) (Nat.succ.inj h2) e1.2 e2.2⟩
  | _ :: _, [], _, h1, _, _, _ => nomatch h1
  | _ :: _, _ :: _, [], _, h2, _, _ => nomatch h2
def bools : Nat → List (List Bool)
  | 0 => [[]]
  | n + 1 => (bools n).flatMap fun l => [false :: l, true :: l]
theorem bools_mem : ∀ (l : List Bool), l ∈ bools l.length
  | [] => List.mem_singleton.mpr rfl
  | b :: l => List.mem_flatMap.mpr ⟨l, bools_mem l, by cases b <;> simp⟩
/-- who lies further in than whom, by ten bits -/
def rel (l : List Bool) : Nat → Nat → Bool
  | 0, _ => true
  | 1, j => l.getD (j - 2) false
  | 2, j => l.getD (j + 1) false
  | 3, j => l.getD (j + 3) false
  | 4, _ => l.getD 9 false
  | _, _ => false
def trans (l : List Bool) : Bool := [(1, 2, 3), (1, 2, 4), (1, 2, 5), (1, 3, 4), (1, 3, 5), (1, 4, 5), (2, 3, 4), (2, 3, 5), (2, 4, 5), (3, 4, 5)].all fun t => !(rel l t.1 t.2.1 && rel l t.2.1 t.2.2) || rel l t.1 t.2.2
def trees42 : List (List Nat) := [[0, 0, 0, 0, 0, 0], [0, 0, 0, 0, 0, 4], [0, 0, 0, 0, 3, 0], [0, 0, 0, 0, 3, 3], [0, 0, 0, 0, 3, 4], [0, 0, 0, 2, 0, 0], [0, 0, 0, 2, 0, 4], [0, 0, 0, 2, 2, 0], [0, 0, 0, 2, 2, 2], [0, 0, 0, 2, 2, 4], [0, 0, 0, 2, 3, 0], [0, 0, 0, 2, 3, 2], [0, 0, 0, 2, 3, 3], [0, 0, 0, 2, 3, 4], [0, 0, 1, 0, 0, 0], [0, 0, 1, 0, 0, 4], [0, 0, 1, 0, 3, 0], [0, 0, 1, 0, 3, 3], [0, 0, 1, 0, 3, 4], [0, 0, 1, 1, 0, 0], [0, 0, 1, 1, 0, 4], [0, 0, 1, 1, 1, 0], [0, 0, 1, 1, 1, 1], [0, 0, 1, 1, 1, 4], [0, 0, 1, 1, 3, 0], [0, 0, 1, 1, 3, 1], [0, 0, 1, 1, 3, 3], [0, 0, 1, 1, 3, 4], [0, 0, 1, 2, 0, 0], [0, 0, 1, 2, 0, 4], [0, 0, 1, 2, 1, 0], [0, 0, 1, 2, 1, 1], [0, 0, 1, 2, 1, 4], [0, 0, 1, 2, 2, 0], [0, 0, 1, 2, 2, 1], [0, 0, 1, 2, 2, 2], [0, 0, 1, 2, 2, 4], [0, 0, 1, 2, 3, 0], [0, 0, 1, 2, 3, 1], [0, 0, 1, 2, 3, 2], [0, 0, 1, 2, 3, 3], [0, 0, 1, 2, 3, 4]]
def ownL (ls : Nat → Nat → Bool) : List Nat := 0 :: (hungTo ls 5).1
def hangOk (l : List Bool) : Bool := !trans l || (trees42.contains (ownL (rel l)) && scanned (fun i j => !rel l i j) == (ownL (rel l)).map fun (k : Nat) => (k : Int))
theorem hang_all : ((bools 10).all hangOk) = true := by decide +kernel
theorem popW_congr {ls ls' : Nat → Nat → Bool} {k : Nat} : ∀ {st : List Nat}, (∀ x ∈ st, ls x k = ls' x k) → popW ls k st = popW ls' k st
  | [], _ => rfl
  | [_], _ => rfl
  | a :: b :: r, h => by
    show (if ls a k then a :: b :: r else popW ls k (b :: r)) = if ls' a k then a :: b :: r else popW ls' k (b :: r)
    rw [h a List.mem_cons_self, popW_congr fun x hx => h x (List.mem_cons_of_mem _ hx)]
theorem hungTo_congr {ls ls' : Nat → Nat → Bool} : ∀ {i : Nat}, (∀ a b, a < b → b ≤ i → ls a b = ls' a b) → hungTo ls i = hungTo ls' i
  | 0, _ => rfl
  | i + 1, h => by
    have e := hungTo_congr (i := i) fun a b h1 h2 => h a b h1 (Nat.le_succ_of_le h2)
    show hungStep ls (hungTo ls i) (i + 1) = hungStep ls' (hungTo ls' i) (i + 1)
    unfold hungStep
    rw [e, popW_congr fun x hx => h x (i + 1) (Nat.lt_succ_of_le (hungTo_st.2 x hx)) (Nat.le_refl _)]
theorem scan_congr {g g' : Nat → Nat → Bool} {k : Nat} : ∀ {j : Nat}, j ≤ k → (∀ a, a ≤ j → ∀ b, a < b → b ≤ k → g a b = g' a b) → scan g k j = scan g' k j
  | 0, _, _ => rfl
  | j + 1, hj, h => by
    unfold scan
    have e : (List.range' (j + 2) (k - (j + 1))).any (fun m => g (j + 1) m) = (List.range' (j + 2) (k - (j + 1))).any fun m => g' (j + 1) m := by
      refine Bool.eq_iff_iff.mpr ?_
      rw [List.any_eq_true, List.any_eq_true]
      refine exists_congr fun m => and_congr_right fun hm => ?_
      rw [List.mem_range'_1] at hm
      rw [h (j + 1) (Nat.le_refl _) m (by omega) (by omega)]
    rw [e, scan_congr (Nat.le_of_succ_le hj) fun a ha => h a (Nat.le_succ_of_le ha)]
theorem scanned_congr {g g' : Nat → Nat → Bool} (h : ∀ a b, a < b → b ≤ 5 → g a b = g' a b) : scanned g = scanned g' := by
  have s : ∀ k j, k ≤ 5 → j ≤ k → scan g k j = scan g' k j := fun k j hk hj => scan_congr hj fun a _ b h1 h2 => h a b h1 (Nat.le_trans h2 hk)
  unfold scanned
  rw [s 1 0 (by decide) (by decide), s 2 1 (by decide) (by decide), s 3 2 (by decide) (by decide), s 4 3 (by decide) (by decide), s 5 4 (by decide) (by decide)]
theorem rel_of {L : Nat → Nat → Bool} (h0 : ∀ j, 1 ≤ j → j ≤ 5 → L 0 j = true) : ∀ a b, a < b → b ≤ 5 → L a b = rel [L 1 2, L 1 3, L 1 4, L 1 5, L 2 3, L 2 4, L 2 5, L 3 4, L 3 5, L 4 5] a b
  | 0, b, h1, h2 => h0 b h1 h2
  | 1, 2, _, _ | 1, 3, _, _ | 1, 4, _, _ | 1, 5, _, _ | 2, 3, _, _ | 2, 4, _, _ | 2, 5, _, _ | 3, 4, _, _ | 3, 5, _, _ | 4, 5, _, _ => rfl
  | a + 5, b, h1, h2 => by omega
  | 1, 0, h1, _ | 1, 1, h1, _ | 2, 0, h1, _ | 2, 1, h1, _ | 2, 2, h1, _ | 3, 0, h1, _ | 3, 1, h1, _ | 3, 2, h1, _ | 3, 3, h1, _ | 4, 0, h1, _ | 4, 1, h1, _ | 4, 2, h1, _ | 4, 3, h1, _ | 4, 4, h1, _ => by omega
  | 1, b + 6, _, h2 | 2, b + 6, _, h2 | 3, b + 6, _, h2 | 4, b + 6, _, h2 => by omega
theorem hang_ok {L : Nat → Nat → Bool} (h0 : ∀ j, 1 ≤ j → j ≤ 5 → L 0 j = true) (ht : ∀ a b c, a ≤ 5 → b ≤ 5 → c ≤ 5 → L a b = true → L b c = true → L a c = true) :
    ownL L ∈ trees42 ∧ scanned (fun i j => !L i j) = (ownL L).map fun (k : Nat) => (k : Int) := by
  have e := rel_of h0
  generalize hl : [L 1 2, L 1 3, L 1 4, L 1 5, L 2 3, L 2 4, L 2 5, L 3 4, L 3 5, L 4 5] = l at e
  have hm := List.all_eq_true.mp hang_all l (by rw [← hl]; exact bools_mem _)
  have ho : ownL L = ownL (rel l) := by unfold ownL; rw [hungTo_congr e]
  have hs : scanned (fun i j => !L i j) = scanned fun i j => !rel l i j := scanned_congr fun a b h1 h2 => by rw [e a b h1 h2]
  have tr : trans l = true := by
    have t : ∀ a b c, a < b → b < c → c ≤ 5 → (!(rel l a b && rel l b c) || rel l a c) = true := fun a b c h1 h2 h3 => by
      rw [← e a b h1 (by omega), ← e b c h2 h3, ← e a c (by omega) h3]
      cases e1 : L a b <;> cases e2 : L b c <;> try rfl
      rw [ht a b c (by omega) (by omega) h3 e1 e2]; rfl
    simp only [trans, List.all_cons, List.all_nil, Bool.and_eq_true]
    exact ⟨t _ _ _ (by decide) (by decide) (by decide), t _ _ _ (by decide) (by decide) (by decide), t _ _ _ (by decide) (by decide) (by decide), t _ _ _ (by decide) (by decide) (by decide), t _ _ _ (by decide) (by decide) (by decide), t _ _ _ (by decide) (by decide) (by decide), t _ _ _ (by decide) (by decide) (by decide), t _ _ _ (by decide) (by decide) (by decide), t _ _ _ (by decide) (by decide) (by decide), t _ _ _ (by decide) (by decide) (by decide), trivial⟩
  unfold hangOk at hm
  rw [tr] at hm
  simp only [Bool.not_true, Bool.false_or, Bool.and_eq_true] at hm
  rw [ho, hs]
  exact ⟨List.contains_iff_mem.mp hm.1, eq_of_beq hm.2⟩
end Mine

namespace Mine
/-! the plain law, 2: paths and lines -/
def pathWords : List (List Nat) := [[97], [98], [99], [100], [101], [100, 97], [99, 97], [99, 98], [99, 97, 97], [98, 97], [98, 98], [98, 99], [98, 98, 97], [98, 97, 97], [98, 97, 98], [98, 97, 97, 97], [97, 97], [97, 98], [97, 99], [97, 100], [97, 99, 97], [97, 98, 97], [97, 98, 98], [97, 98, 97, 97], [97, 97, 97], [97, 97, 98], [97, 97, 99], [97, 97, 98, 97], [97, 97, 97, 97], [97, 97, 97, 98], [97, 97, 97, 97, 97]]
def dotB (p : List Nat) : Bool := decide ((mkS p ++ ldots).length ≤ 10) && decide ((mkS p).length ≤ 10) && decide (Txt.split (mkS p ++ ldots) (Str.ofString "...") = [mkS p, Str.empty]) &&
  !(Builtin.Str.occurrences (mkS p ++ ldots) (Str.ofString "...") 0 (mkS p ++ ldots).length 1).isEmpty && decide ((Builtin.Str.partsBetween (mkS p ++ ldots) (Builtin.Str.occurrences (mkS p ++ ldots) (Str.ofString "...") 0 (mkS p ++ ldots).length ((mkS p ++ ldots).length + 1)) 3).length ≤ 10)
theorem dots_all : (pathWords.all dotB) = true := by decide +kernel
theorem dot_ok {p : List Nat} (h : p ∈ pathWords) : DotOk (mkS p ++ ldots) (mkS p) Str.empty := by
  have := List.all_eq_true.mp dots_all p h
  simp only [dotB, Bool.and_eq_true, decide_eq_true_eq, Bool.not_eq_true'] at this
  obtain ⟨⟨⟨⟨h1, h2⟩, h3⟩, h4⟩, h5⟩ := this
  exact ⟨h1, h2, Nat.zero_le _, h3, h4, h5⟩
theorem starts_all : (pathWords.all fun p => pathWords.all fun q => [76, 82].all fun c => Txt.startswith (mkS (p ++ [c])) (mkS q) == q.isPrefixOf p) = true := by decide +kernel
theorem ends_all : (pathWords.all fun p => [76, 82].all fun c => (Txt.endswith (mkS (p ++ [c])) (Str.ofString "L") == (c == 76)) && (Txt.endswith (mkS (p ++ [c])) (Str.ofString "R") == (c == 82))) = true := by decide +kernel
def pathAt (o : List Nat) (k : Nat) : List Nat := (pathsTo o 5).getD k []
theorem paths_all : (trees42.all fun o => [1, 2, 3, 4, 5].all fun k => pathWords.contains (pathAt o.tail k) && [1, 2, 3, 4, 5].all fun m => (pathAt o.tail k).isPrefixOf (pathAt o.tail m) == below o 6 k m) = true := by decide +kernel
def endOf (nt : Nat → Nat) (k : Nat) : Nat := if nt k % 2 = 1 then 82 else 76
theorem end_mem (nt : Nat → Nat) (k : Nat) : endOf nt k ∈ [76, 82] := by unfold endOf; split <;> simp
theorem linesTo_at {o : List Nat} {nt : Nat → Nat} : ∀ {i m : Nat}, 1 ≤ m → m ≤ i → (linesTo o nt i).getD m [] = (pathsTo o i).getD m [] ++ [endOf nt m]
  | 0, m, h1, h2 => absurd (Nat.le_trans h1 h2) (by decide)
  | i + 1, m, h1, h2 => by
    show (linesTo o nt i ++ [(pathsTo o (i + 1)).getD (i + 1) [] ++ [endOf nt (i + 1)]]).getD m [] = _
    rcases Nat.lt_or_ge m (i + 1) with h | h
    · rw [getD_left (by rw [linesTo_length]; exact h), linesTo_at h1 (Nat.le_of_lt_succ h)]
      show _ = (pathsTo o i ++ [_]).getD m [] ++ _
      rw [getD_left (by rw [pathsTo_ok.1]; exact h)]
    · have : m = (linesTo o nt i).length := by rw [linesTo_length]; exact Nat.le_antisymm h2 h
      have e : m = i + 1 := Nat.le_antisymm h2 h
      rw [this, getD_end, ← this, e]
theorem mem5 : ∀ {k : Nat}, 1 ≤ k → k < 6 → k ∈ [1, 2, 3, 4, 5]
  | 1, _, _ | 2, _, _ | 3, _, _ | 4, _, _ | 5, _, _ => by simp
  | 0, h, _ => absurd h (by decide)
  | k + 6, _, h => absurd h (by omega)
section
variable {o : List Nat} {nt : Nat → Nat} (ho : 0 :: o ∈ trees42)
include ho
theorem path_at {k : Nat} (h1 : 1 ≤ k) (h2 : k < 6) : pathAt o k ∈ pathWords ∧ ∀ m, 1 ≤ m → m < 6 → (pathAt o k).isPrefixOf (pathAt o m) = below (0 :: o) 6 k m := by
  have := List.all_eq_true.mp (List.all_eq_true.mp paths_all _ ho) k (mem5 h1 h2)
  rw [Bool.and_eq_true, List.all_eq_true] at this
  exact ⟨List.contains_iff_mem.mp this.1, fun m h3 h4 => eq_of_beq (this.2 m (mem5 h3 h4))⟩
theorem page_ok : PageOk (pathsTo o 5) (linesTo o nt 5) := by
  refine ⟨pathsTo_ok.1, linesTo_length, fun k h1 h2 => ?_, fun k => ?_⟩
  · have hp := (path_at ho h1 h2).1
    refine ⟨fun e => ?_, dot_ok hp⟩
    have : pathAt o k = [] := List.length_eq_zero_iff.mp e
    rw [this] at hp
    exact absurd hp (by decide)
  · rcases Nat.lt_or_ge k 6 with h | h
    · rcases k with _ | k
      · exact Nat.zero_le _
      · rw [linesTo_at (Nat.succ_pos k) (Nat.le_of_lt_succ h), List.length_append]
        exact Nat.le_trans (Nat.succ_le_succ (pathsTo_ok.2 _)) (by decide)
    · rw [List.getD_eq_getElem?_getD, List.getElem?_eq_none (by rw [linesTo_length]; exact h)]
      exact Nat.zero_le _
theorem start_at {k m : Nat} (h1 : 1 ≤ k) (h2 : k < 6) (h3 : 1 ≤ m) (h4 : m < 6) : Txt.startswith (mkS ((linesTo o nt 5).getD m [])) (mkS ((pathsTo o 5).getD k [])) = below (0 :: o) 6 k m := by
  have hm := (path_at ho h3 h4).1
  obtain ⟨hk, hb⟩ := path_at ho h1 h2
  rw [linesTo_at h3 (Nat.le_of_lt_succ h4)]
  exact (eq_of_beq (List.all_eq_true.mp (List.all_eq_true.mp (List.all_eq_true.mp starts_all _ hm) _ hk) _ (end_mem nt m))).trans (hb m h3 h4)
theorem gone_to {k : Nat} (h1 : 1 ≤ k) (h2 : k < 6) : ∀ {i : Nat}, i < 6 → goneTo (pathsTo o 5) (linesTo o nt 5) k i = ((List.range' 1 i).filter fun m => below (0 :: o) 6 k m).foldl (fun g (m : Nat) => Builtin.bitOr g (1 * 2 ^ m)) 0
  | 0, _ => rfl
  | i + 1, hi => by
    have ih := gone_to h1 h2 (i := i) (Nat.lt_of_succ_lt hi)
    unfold goneTo
    rw [start_at ho h1 h2 (Nat.succ_pos i) hi, ih, List.range'_1_concat, List.filter_append, List.foldl_append, Nat.add_comm 1 i]
    cases hb : below (0 :: o) 6 k (i + 1) <;> simp [List.filter, hb]
theorem cut_at {odd : List Bool} {k : Nat} (h1 : 1 ≤ k) (h2 : k < 6) (hn : decide (nt k % 2 = 1) = odd.getD k false) :
    (((k : Nat) : Int), goneTo (pathsTo o 5) (linesTo o nt 5) k 5, mineOf (linesTo o nt 5) k, theirsOf (linesTo o nt 5) k) = ((k : Int), goneOf (0 :: o) k, !(odd.getD k false), odd.getD k false) := by
  have hg : goneTo (pathsTo o 5) (linesTo o nt 5) k 5 = goneOf (0 :: o) k := gone_to ho h1 h2 (by decide)
  have he := List.all_eq_true.mp (List.all_eq_true.mp ends_all _ (path_at ho h1 h2).1) _ (end_mem nt k)
  rw [Bool.and_eq_true] at he
  unfold mineOf theirsOf
  rw [hg, linesTo_at h1 (Nat.le_of_lt_succ h2)]
  have e1 := eq_of_beq he.1
  have e2 := eq_of_beq he.2
  unfold pathAt at e1 e2
  rw [e1, e2, ← hn]
  unfold endOf
  by_cases h : nt k % 2 = 1
  · simp [h]
  · simp [h]
theorem cuts_ok {odd : List Bool} (hn : ∀ k, 1 ≤ k → k < 6 → decide (nt k % 2 = 1) = odd.getD k false) : cutsTo (pathsTo o 5) (linesTo o nt 5) 5 = cutsOf (0 :: o) odd := by
  have c := fun (k : Nat) (h1 : 1 ≤ k) (h2 : k < 6) => cut_at (nt := nt) ho h1 h2 (hn k h1 h2)
  show [] ++ [_] ++ [_] ++ [_] ++ [_] ++ [_] = [_, _, _, _, _]
  rw [c 1 (by decide) (by decide), c 2 (by decide) (by decide), c 3 (by decide) (by decide), c 4 (by decide) (by decide), c 5 (by decide) (by decide)]
  rfl
end
end Mine

namespace Mine
/-! the plain law, 3: the play without colours; the choices as forests -/
def movesN (here : Int) : List (Int × Int) → List Int × List (Int × Int) → Option (List Int × List (Int × Int))
  | [], s => some s
  | c :: r, s =>
    if Builtin.bitAnd here (1 * 2 ^ c.1.toNat) = 0 then movesN here r s
    else
      let there := Builtin.bitAnd here (Builtin.bitNot c.2)
      if there = here then none
      else movesN here r (if s.1.any (· == there) then s.1 else s.1 ++ [there], s.2 ++ [(c.1, there)])
def isOdd (odd : List Bool) (k : Int) : Bool := odd.getD k.toNat false
def cutOf (odd : List Bool) (c : Int × Int) : Cut := (c.1, c.2, !(isOdd odd c.1), isOdd odd c.1)
def sel (odd : List Bool) (ms : List (Int × Int)) : List Int × List Int := ((ms.filter fun m => !(isOdd odd m.1)).map (·.2), (ms.filter fun m => isOdd odd m.1).map (·.2))
theorem sel_snoc (odd : List Bool) (ms : List (Int × Int)) (k t : Int) : (if !(isOdd odd k) then (sel odd ms).1 ++ [t] else (sel odd ms).1, if isOdd odd k then (sel odd ms).2 ++ [t] else (sel odd ms).2) = sel odd (ms ++ [(k, t)]) := by
  unfold sel
  cases h : isOdd odd k <;> simp [List.filter_append, List.filter, h]
theorem movesGo_eq (odd : List Bool) (here : Int) : ∀ (cs : List (Int × Int)) (st : List Int) (ms : List (Int × Int)), movesGo here (cs.map (cutOf odd)) (st, sel odd ms) = (movesN here cs (st, ms)).map fun s => (s.1, sel odd s.2)
  | [], _, _ => rfl
  | c :: r, st, ms => by
    show (if Builtin.bitAnd here (1 * 2 ^ c.1.toNat) = 0 then movesGo here (r.map (cutOf odd)) (st, sel odd ms) else if Builtin.bitAnd here (Builtin.bitNot c.2) = here then none else
      movesGo here (r.map (cutOf odd)) (if st.any (· == Builtin.bitAnd here (Builtin.bitNot c.2)) then st else st ++ [Builtin.bitAnd here (Builtin.bitNot c.2)], if !(isOdd odd c.1) then (sel odd ms).1 ++ [Builtin.bitAnd here (Builtin.bitNot c.2)] else (sel odd ms).1, if isOdd odd c.1 then (sel odd ms).2 ++ [Builtin.bitAnd here (Builtin.bitNot c.2)] else (sel odd ms).2)) = _
    rw [sel_snoc, movesGo_eq odd here r, movesGo_eq odd here r]
    show _ = (if Builtin.bitAnd here (1 * 2 ^ c.1.toNat) = 0 then movesN here r (st, ms) else if Builtin.bitAnd here (Builtin.bitNot c.2) = here then none else
      movesN here r (if st.any (· == Builtin.bitAnd here (Builtin.bitNot c.2)) then st else st ++ [Builtin.bitAnd here (Builtin.bitNot c.2)], ms ++ [(c.1, Builtin.bitAnd here (Builtin.bitNot c.2))])).map _
    by_cases h1 : Builtin.bitAnd here (1 * 2 ^ c.1.toNat) = 0
    · rw [if_pos h1, if_pos h1]
    · rw [if_neg h1, if_neg h1]
      by_cases h2 : Builtin.bitAnd here (Builtin.bitNot c.2) = here
      · rw [if_pos h2, if_pos h2]; rfl
      · rw [if_neg h2, if_neg h2]
def playN (cs : List (Int × Int)) : Nat → List Int → List (List (Int × Int)) → Option (List Int × List (List (Int × Int)))
  | 0, _, _ => none
  | f + 1, stands, ways =>
    match stands[ways.length]? with
    | none => some (stands, ways)
    | some here => match movesN here cs (stands, []) with
      | none => none
      | some s => playN cs f s.1 (ways ++ [s.2])
theorem playGo_eq (odd : List Bool) (cs : List (Int × Int)) : ∀ (f : Nat) (st : List Int) (ws : List (List (Int × Int))), playGo (cs.map (cutOf odd)) f st (ws.map (sel odd)) = (playN cs f st ws).map fun s => (s.1, s.2.map (sel odd))
  | 0, _, _ => rfl
  | f + 1, st, ws => by
    unfold playGo playN
    rw [List.length_map]
    cases st[ws.length]? with
    | none => rfl
    | some here =>
      have e := movesGo_eq odd here cs st []
      dsimp only at e ⊢
      rw [show ((st, [], []) : List Int × List Int × List Int) = (st, sel odd []) from rfl, e]
      cases movesN here cs (st, []) with
      | none => rfl
      | some s =>
        have ih := playGo_eq odd cs f s.1 (ws ++ [s.2])
        rw [List.map_append] at ih
        exact ih
def cuts0 (o : List Nat) : List (Int × Int) := [1, 2, 3, 4, 5].map fun (k : Nat) => ((k : Int), goneOf o k)
theorem cutsOf_eq (o : List Nat) (odd : List Bool) : cutsOf o odd = (cuts0 o).map (cutOf odd) := rfl
/-- each stand's moves lead to stands before it -/
def orderOk (done : List Int) : List (Int × List (Int × Int)) → Bool
  | [] => true
  | q :: r => q.2.all (fun m => done.any (· == m.2)) && !(done.any (· == q.1)) && decide (q.2.length ≤ 9) && orderOk (done ++ [q.1]) r
theorem good_of {wf : Int → Int} {odd : List Bool} : ∀ {T : List (Int × List (Int × Int))} {done : List Int}, orderOk done T = true → (∀ q ∈ T, wf q.1 = simp ((sel odd q.2).1.map wf) ((sel odd q.2).2.map wf) 12 0 64 0) → goodT wf done (T.map fun q => (q.1, sel odd q.2)) = true
  | [], _, _, _ => rfl
  | q :: r, done, h, hv => by
    unfold orderOk at h
    simp only [Bool.and_eq_true, decide_eq_true_eq] at h
    obtain ⟨⟨⟨h1, h2⟩, h3⟩, h4⟩ := h
    have ih := good_of h4 fun q hq => hv q (List.mem_cons_of_mem _ hq)
    have hs : ∀ (p : Int × Int → Bool), ((q.2.filter p).map (·.2)).all (fun x => done.any (· == x)) = true ∧ ((q.2.filter p).map (·.2)).length ≤ 9 := fun p =>
      ⟨List.all_eq_true.mpr fun x hx => by
        obtain ⟨m, hm, rfl⟩ := List.mem_map.mp hx
        exact List.all_eq_true.mp h1 m (List.mem_filter.mp hm).1, by rw [List.length_map]; exact Nat.le_trans (List.length_filter_le _ _) h3⟩
    show (_ && _ && _ && _ && _ && goodT wf _ _) = true
    rw [ih]
    simp only [Bool.and_eq_true, decide_eq_true_eq, beq_iff_eq]
    exact ⟨⟨⟨⟨⟨(hs _).1, (hs _).1⟩, h2⟩, hv q List.mem_cons_self⟩, (hs _).2, (hs _).2⟩, trivial⟩
/-- forests: the first child, the next sibling -/
inductive Fo (α : Type) : Type
  | nil : Fo α
  | node : α → Fo α → Fo α → Fo α
namespace Fo
def map {α β : Type} (g : α → β) : Fo α → Fo β
  | nil => nil
  | node a k r => node (g a) (map g k) (map g r)
def opts {α : Type} : Fo α → List (α × Fo α)
  | nil => []
  | node a k r => (a, r) :: ((opts k).map fun q => (q.1, node a q.2 r)) ++ (opts r).map fun q => (q.1, node a k q.2)
def size {α : Type} : Fo α → Nat
  | nil => 0
  | node _ k r => size k + size r + 1
def same : Fo Nat → Fo Nat → Bool
  | nil, nil => true
  | node a k r, node b k' r' => a == b && same k k' && same r r'
  | _, _ => false
def val : Fo Bool → Int
  | nil => 0
  | node s k r =>
    let turned : Int := if s then -1 else 1
    let x := turned * val k
    let n := liftN x 200 1
    val r + turned * ((x + 64 * n).fdiv (2 ^ (n - 1)))
def good (f : Fo Bool) : Bool := val f == simp (((opts f).filter fun q => !q.1).map fun q => val q.2) (((opts f).filter fun q => q.1).map fun q => val q.2) 12 0 64 0
theorem eq_of_same : ∀ {f g : Fo Nat}, same f g = true → f = g
  | nil, nil, _ => rfl
  | node a k r, node b k' r', h => by
    simp only [same, Bool.and_eq_true, beq_iff_eq] at h
    rw [h.1.1, eq_of_same h.1.2, eq_of_same h.2]
  | nil, node _ _ _, h => nomatch h
  | node _ _ _, nil, h => nomatch h
theorem opts_map {α β : Type} (g : α → β) : ∀ f : Fo α, (f.map g).opts = f.opts.map fun q => (g q.1, q.2.map g)
  | nil => rfl
  | node a k r => by
    show (g a, r.map g) :: (((k.map g).opts.map fun q => (q.1, node (g a) q.2 (r.map g))) ++ (r.map g).opts.map fun q => (q.1, node (g a) (k.map g) q.2)) = _
    rw [opts_map g k, opts_map g r]
    show _ = List.map _ ((a, r) :: ((k.opts.map fun q => (q.1, node a q.2 r)) ++ r.opts.map fun q => (q.1, node a k q.2)))
    simp only [List.map_cons, List.map_append, List.map_map]
    rfl
theorem size_map {α β : Type} (g : α → β) : ∀ f : Fo α, (f.map g).size = f.size
  | nil => rfl
  | node a k r => by show (k.map g).size + (r.map g).size + 1 = _; rw [size_map g k, size_map g r]; rfl
/-- the forests of 0, 1, .. n nodes -/
def tab : Nat → List (List (Fo Bool))
  | 0 => [[nil]]
  | n + 1 => let t := tab n; t ++ [(List.range (n + 1)).flatMap fun i => (t.getD i []).flatMap fun k => (t.getD (n - i) []).flatMap fun r => [node false k r, node true k r]]
theorem tab_length : ∀ n, (tab n).length = n + 1
  | 0 => rfl
  | n + 1 => by show (tab n ++ [_]).length = _; rw [List.length_append, tab_length n]; rfl
theorem tab_mem : ∀ {n : Nat} {f : Fo Bool}, f.size ≤ n → f ∈ (tab n).getD f.size []
  | 0, nil, _ => List.mem_singleton.mpr rfl
  | 0, node _ _ _, h => absurd h (Nat.not_succ_le_zero _)
  | n + 1, f, h => by
    show f ∈ (tab n ++ [_]).getD f.size []
    rcases Nat.lt_or_ge n f.size with h1 | h1
    · have e : f.size = (tab n).length := by rw [tab_length]; omega
      rw [e, getD_end]
      match f, h1, h, e with
      | node a k r, h1, h, e =>
        have e2 : k.size + r.size + 1 = n + 1 := by rw [tab_length] at e; exact e
        refine List.mem_flatMap.mpr ⟨k.size, List.mem_range.mpr (by omega), List.mem_flatMap.mpr ⟨k, tab_mem (by omega), List.mem_flatMap.mpr ⟨r, ?_, by cases a <;> simp⟩⟩⟩
        have : n - k.size = r.size := by omega
        rw [this]
        exact tab_mem (by omega)
    · rw [getD_left (by rw [tab_length]; omega)]
      exact tab_mem h1
theorem good_low : ((tab 4).all fun l => l.all good) = true := by decide +kernel
def five : List (Fo Bool) := (tab 5).getD 5 []
theorem good_a : ((five.take 340).all good) = true := by decide +kernel
theorem good_b : (((five.drop 340).take 340).all good) = true := by decide +kernel
theorem good_c : (((five.drop 680).take 340).all good) = true := by decide +kernel
theorem good_d : ((five.drop 1020).all good) = true := by decide +kernel
theorem all_cut {α : Type} {p : α → Bool} {l : List α} (n : Nat) (h1 : (l.take n).all p = true) (h2 : (l.drop n).all p = true) : l.all p = true := by
  rw [← List.take_append_drop n l, List.all_append, h1, h2]; rfl
theorem good_five : five.all good = true := by
  refine all_cut 340 good_a (all_cut 340 good_b (all_cut 340 ?_ ?_))
  · rw [List.drop_drop]; exact good_c
  · rw [List.drop_drop, List.drop_drop]; exact good_d
theorem good_at {f : Fo Bool} (h : f.size ≤ 5) : f.good = true := by
  rcases Nat.lt_or_ge f.size 5 with h4 | h5
  · have hm := tab_mem (Nat.le_of_lt_succ h4)
    have hl : f.size < (tab 4).length := by rw [tab_length]; exact h4
    rw [List.getD_eq_getElem?_getD, List.getElem?_eq_getElem hl] at hm
    exact List.all_eq_true.mp (List.all_eq_true.mp good_low _ (List.getElem_mem hl)) f hm
  · have hm := tab_mem h
    rw [Nat.le_antisymm h h5] at hm
    exact List.all_eq_true.mp good_five f hm
end Fo
/-- a choice of rows as a forest, each row under the one it hangs on -/
def foStep (o : List Nat) (here : Int) (l : List (Fo Nat)) (k : Nat) : List (Fo Nat) := if bitAt here k = 0 then l else l.set (o.getD k 0) (.node k (l.getD k .nil) (l.getD (o.getD k 0) .nil))
def foAt (o : List Nat) (here : Int) : Fo Nat := ([5, 4, 3, 2, 1].foldl (foStep o here) [.nil, .nil, .nil, .nil, .nil, .nil]).getD 0 .nil
def vof (odd : List Bool) (f : Fo Nat) : Int := (f.map fun k => odd.getD k false).val
theorem getD_map' {α β : Type} (g : α → β) (l : List α) (d : α) (i : Nat) : (l.map g).getD i (g d) = g (l.getD i d) := by
  rw [List.getD_eq_getElem?_getD, List.getD_eq_getElem?_getD, List.getElem?_map]
  cases l[i]? <;> rfl
theorem due_step (o : List Nat) (odd : List Bool) (here : Int) (l : List (Fo Nat)) (k : Nat) : dueStep o odd here (l.map (vof odd)) k = (foStep o here l k).map (vof odd) := by
  unfold dueStep foStep
  split
  · rfl
  · rw [List.map_set]
    have e := fun i => getD_map' (vof odd) l .nil i
    have z : vof odd .nil = 0 := rfl
    rw [z] at e
    rw [e, e]
    rfl
theorem due_fold (o : List Nat) (odd : List Bool) (here : Int) : ∀ (ks : List Nat) (l : List (Fo Nat)), ks.foldl (dueStep o odd here) (l.map (vof odd)) = (ks.foldl (foStep o here) l).map (vof odd)
  | [], _ => rfl
  | k :: ks, l => by
    show ks.foldl _ (dueStep o odd here (l.map (vof odd)) k) = _
    rw [due_step, due_fold o odd here ks]
    rfl
theorem due_fo (o : List Nat) (odd : List Bool) (here : Int) : dueAt o odd here = vof odd (foAt o here) := by
  have e := due_fold o odd here [5, 4, 3, 2, 1] [.nil, .nil, .nil, .nil, .nil, .nil]
  unfold dueAt foAt
  rw [show ([0, 0, 0, 0, 0, 0] : List Int) = [Fo.nil, .nil, .nil, .nil, .nil, .nil].map (vof odd) from rfl, e]
  exact getD_map' (vof odd) _ .nil 0
def sameOpts : List (Int × Fo Nat) → List (Nat × Fo Nat) → Bool
  | [], [] => true
  | a :: l, b :: m => a.1 == (b.1 : Int) && a.2.same b.2 && sameOpts l m
  | _, _ => false
theorem eq_of_sameOpts : ∀ {l : List (Int × Fo Nat)} {m : List (Nat × Fo Nat)}, sameOpts l m = true → l = m.map fun q => ((q.1 : Int), q.2)
  | [], [], _ => rfl
  | a :: l, b :: m, h => by
    simp only [sameOpts, Bool.and_eq_true, beq_iff_eq] at h
    rw [eq_of_sameOpts h.2, List.map_cons, ← h.1.1, ← Fo.eq_of_same h.1.2]
  | [], _ :: _, h => nomatch h
  | _ :: _, [], h => nomatch h
/-- a stand's moves are its forest's -/
def standOk (o : List Nat) (q : Int × List (Int × Int)) : Bool := decide ((foAt o q.1).size ≤ 5) && sameOpts (q.2.map fun m => (m.1, foAt o m.2)) (foAt o q.1).opts
theorem stand_val {o : List Nat} {q : Int × List (Int × Int)} (odd : List Bool) (h : standOk o q = true) : dueAt o odd q.1 = simp ((sel odd q.2).1.map (dueAt o odd)) ((sel odd q.2).2.map (dueAt o odd)) 12 0 64 0 := by
  unfold standOk at h
  simp only [Bool.and_eq_true, decide_eq_true_eq] at h
  have hg := Fo.good_at (f := (foAt o q.1).map fun k => odd.getD k false) (by rw [Fo.size_map]; exact h.1)
  have he := eq_of_sameOpts h.2
  have hv := eq_of_beq hg
  rw [due_fo]
  refine hv.trans ?_
  have part : ∀ (b : Bool), ((((foAt o q.1).map fun k => odd.getD k false).opts.filter fun p => p.1 == b).map fun p => p.2.val) = ((q.2.filter fun m => isOdd odd m.1 == b).map (·.2)).map (dueAt o odd) := fun b => by
    have e1 : ((q.2.map fun m => (m.1, foAt o m.2)).filter fun p => isOdd odd p.1 == b).map (fun p => vof odd p.2) = ((q.2.filter fun m => isOdd odd m.1 == b).map (·.2)).map (dueAt o odd) := by
      rw [List.filter_map, List.map_map, List.map_map]
      exact List.map_congr_left fun m _ => (due_fo o odd m.2).symm
    rw [← e1, he, Fo.opts_map, List.filter_map, List.filter_map, List.map_map, List.map_map]
    rfl
  have pf := part false
  have pt := part true
  have c0 : ∀ x : Bool, (x == false) = !x := fun x => by cases x <;> rfl
  have c1 : ∀ x : Bool, (x == true) = x := fun x => by cases x <;> rfl
  simp only [c0] at pf
  simp only [c1] at pt
  unfold sel
  rw [pf, pt]
end Mine

namespace Mine
/-! the plain law, 4: each tree, each page -/
def apart : List Int → Bool
  | [] => true
  | x :: r => !(r.any (· == x)) && apart r
theorem apart_at : ∀ {S : List Int}, apart S = true → ∀ i j, i < S.length → j < S.length → i ≠ j → S.getD i 0 ≠ S.getD j 0
  | [], _, i, _, hi, _, _ => absurd hi (Nat.not_lt_zero i)
  | x :: r, h, i, j, hi, hj, hne => by
    simp only [apart, Bool.and_eq_true, Bool.not_eq_true', List.any_eq_false, beq_iff_eq] at h
    have at_ : ∀ k, k < r.length → r.getD k 0 ∈ r := fun k hk => by rw [List.getD_eq_getElem?_getD, List.getElem?_eq_getElem hk]; exact List.getElem_mem _
    rcases i with _ | i <;> rcases j with _ | j
    · exact absurd rfl hne
    · exact fun e => h.1 _ (at_ j (Nat.lt_of_succ_lt_succ hj)) e.symm
    · exact fun e => h.1 _ (at_ i (Nat.lt_of_succ_lt_succ hi)) e
    · exact apart_at h.2 i j (Nat.lt_of_succ_lt_succ hi) (Nat.lt_of_succ_lt_succ hj) fun e => hne (congrArg _ e)
def sortOk (o : List Nat) (S : List Int) (M : List (List (Int × Int))) : Bool :=
  match runOk (fun i j => decide (S.getD i 0 < S.getD j 0)) S.length (kas_sort S.length) with
  | none => false
  | some p => p.toList.length == S.length && p.toList.all (fun i => decide (i < S.length)) && orderOk [] (p.toList.map fun i => (S.getD i 0, M.getD i []))
def treeOk (o : List Nat) : Bool :=
  match playN (cuts0 o) 40 [62] [] with
  | none => false
  | some (S, M) => M.length == S.length && decide (2 ≤ S.length) && decide (S.length < 64) && apart S && sortOk o S M && (S.zip M).all (standOk o) &&
    S.length == (heres.filter fun h => !dueBad o h).length && S.all fun h => heres.contains h && !dueBad o h
theorem trees_a : ((trees42.take 2).all treeOk) = true := by decide +kernel
theorem trees_b : (((trees42.drop 2).take 4).all treeOk) = true := by decide +kernel
theorem trees_c : (((trees42.drop 6).take 3).all treeOk) = true := by decide +kernel
theorem trees_d : (((trees42.drop 9).take 4).all treeOk) = true := by decide +kernel
theorem trees_e : (((trees42.drop 13).take 3).all treeOk) = true := by decide +kernel
theorem trees_f : (((trees42.drop 16).take 4).all treeOk) = true := by decide +kernel
theorem trees_g : (((trees42.drop 20).take 4).all treeOk) = true := by decide +kernel
theorem trees_h : (((trees42.drop 24).take 4).all treeOk) = true := by decide +kernel
theorem trees_i : (((trees42.drop 28).take 4).all treeOk) = true := by decide +kernel
theorem trees_j : (((trees42.drop 32).take 5).all treeOk) = true := by decide +kernel
theorem trees_k : ((trees42.drop 37).all treeOk) = true := by decide +kernel
theorem trees_all : (trees42.all treeOk) = true := by
  refine Fo.all_cut 2 trees_a (Fo.all_cut 4 trees_b (Fo.all_cut 3 ?_ (Fo.all_cut 4 ?_ (Fo.all_cut 3 ?_ (Fo.all_cut 4 ?_ (Fo.all_cut 4 ?_ (Fo.all_cut 4 ?_ (Fo.all_cut 4 ?_ (Fo.all_cut 5 ?_ ?_)))))))))
  · rw [List.drop_drop]; exact trees_c
  · rw [List.drop_drop, List.drop_drop]; exact trees_d
  · rw [List.drop_drop, List.drop_drop, List.drop_drop]; exact trees_e
  · rw [List.drop_drop, List.drop_drop, List.drop_drop, List.drop_drop]; exact trees_f
  · rw [List.drop_drop, List.drop_drop, List.drop_drop, List.drop_drop, List.drop_drop]; exact trees_g
  · rw [List.drop_drop, List.drop_drop, List.drop_drop, List.drop_drop, List.drop_drop, List.drop_drop]; exact trees_h
  · rw [List.drop_drop, List.drop_drop, List.drop_drop, List.drop_drop, List.drop_drop, List.drop_drop, List.drop_drop]; exact trees_i
  · rw [List.drop_drop, List.drop_drop, List.drop_drop, List.drop_drop, List.drop_drop, List.drop_drop, List.drop_drop, List.drop_drop]; exact trees_j
  · rw [List.drop_drop, List.drop_drop, List.drop_drop, List.drop_drop, List.drop_drop, List.drop_drop, List.drop_drop, List.drop_drop, List.drop_drop]; exact trees_k
theorem low_all : (trees42.all fun o => o.length == 6 && o.all fun k => decide (k < 6)) = true := by decide +kernel
theorem nt_all : ((words 6).all fun w => decide ((wsOf w).2.2.2 % 2 = 1) == ((Txt.count (mkS w) (Str.ofString "\t")).fmod 2 == 1)) = true := by decide +kernel
structure TreeIs (o : List Nat) (S : List Int) (M : List (List (Int × Int))) (p : Array Nat) : Prop where
  play : playN (cuts0 o) 40 [62] [] = some (S, M)
  len : M.length = S.length
  two : 2 ≤ S.length
  most : S.length < 64
  apart : ∀ i j, i < S.length → j < S.length → i ≠ j → S.getD i 0 ≠ S.getD j 0
  run : runOk (fun i j => decide (S.getD i 0 < S.getD j 0)) S.length (kas_sort S.length) = some p
  plen : p.toList.length = S.length
  plow : ∀ i ∈ p.toList, i < S.length
  order : orderOk [] (p.toList.map fun i => (S.getD i 0, M.getD i [])) = true
  stand : ∀ i, i < S.length → standOk o (S.getD i 0, M.getD i []) = true
  many : S.length = (heres.filter fun h => !dueBad o h).length
  each : ∀ i, i < S.length → S.getD i 0 ∈ heres.filter fun h => !dueBad o h
theorem tree_is {o : List Nat} (h : o ∈ trees42) : ∃ S M p, TreeIs o S M p := by
  have ht := List.all_eq_true.mp trees_all o h
  unfold treeOk at ht
  split at ht
  · cases ht
  · rename_i S M hp
    simp only [Bool.and_eq_true, decide_eq_true_eq, beq_iff_eq] at ht
    obtain ⟨⟨⟨⟨⟨⟨⟨h1, h2⟩, h3⟩, h4⟩, h5⟩, h6⟩, h7⟩, h8⟩ := ht
    unfold sortOk at h5
    split at h5
    · cases h5
    · rename_i p hr
      simp only [Bool.and_eq_true, beq_iff_eq, List.all_eq_true, decide_eq_true_eq] at h5
      obtain ⟨⟨k1, k2⟩, k3⟩ := h5
      have at_ : ∀ i, i < S.length → S.getD i 0 ∈ S := fun i hi => by rw [List.getD_eq_getElem?_getD, List.getElem?_eq_getElem hi]; exact List.getElem_mem _
      refine ⟨S, M, p, hp, h1, h2, h3, apart_at h4, hr, k1, k2, k3, fun i hi => ?_, h7, fun i hi => ?_⟩
      · refine List.all_eq_true.mp h6 _ ?_
        have hz : i < (S.zip M).length := by rw [List.length_zip, h1, Nat.min_self]; exact hi
        have e : (S.zip M)[i] = (S.getD i 0, M.getD i []) := by
          rw [List.getElem_zip, List.getD_eq_getElem?_getD, List.getD_eq_getElem?_getD, List.getElem?_eq_getElem hi, List.getElem?_eq_getElem (h1.symm ▸ hi)]
          rfl
        rw [← e]
        exact List.getElem_mem hz
      · have := List.all_eq_true.mp h8 _ (at_ i hi)
        rw [Bool.and_eq_true] at this
        exact List.mem_filter.mpr ⟨List.contains_iff_mem.mp this.1, this.2⟩
theorem mkS_toList (x : Str) : mkS x.cps.toList = x := by cases x; rfl
theorem page_law (xs : List Str) (h : LeadsOk xs) (h6 : xs.length = 6) : PageLaw xs := by
  have hw : ∀ k, k < 6 → wsAt xs k ∈ words 6 := fun k hk => LeadOk.mem (h.1 _ (by rw [List.getD_eq_getElem?_getD, List.getElem?_eq_getElem (h6.symm ▸ hk)]; exact List.getElem_mem _))
  have h0 : wsAt xs 0 = [] := by unfold wsAt; rw [h.2.1]; rfl
  have htop : ∀ m, 1 ≤ m → m < 6 → notBelow (cols (wsAt xs 0)) (cols (wsAt xs m)) = false := fun m h1 h2 => by
    have := List.all_eq_true.mp words_top _ (hw m h2)
    rw [Bool.or_eq_true] at this
    rcases this with e | e
    · exact absurd (by rw [← Array.length_toList]; exact List.length_eq_zero_iff.mpr (List.isEmpty_iff.mp e)) (h.2.2 m h1 (h6.symm ▸ h2))
    · rw [h0]; exact Bool.not_eq_true' _ |>.mp e
  have hlc : ∀ i j, i ≤ 5 → j ≤ 5 → lessB (wsAt xs i) (wsAt xs j) = !notBelow (cols (wsAt xs i)) (cols (wsAt xs j)) := fun i j hi hj => less_cols (hw i (Nat.lt_succ_of_le hi)) (hw j (Nat.lt_succ_of_le hj))
  obtain ⟨ht, hs⟩ := hang_ok (L := fun i j => lessB (wsAt xs i) (wsAt xs j)) (fun j h1 h2 => by rw [hlc 0 j (by decide) h2, htop j h1 (Nat.lt_succ_of_le h2)]; rfl) fun a b c ha hb hc e1 e2 => by
    rw [hlc a b ha hb] at e1
    rw [hlc b c hb hc] at e2
    rw [hlc a c ha hc, below_trans ((cols_length _).trans (cols_length _).symm) ((cols_length _).trans (cols_length _).symm) (Bool.not_eq_true' _ |>.mp e1) (Bool.not_eq_true' _ |>.mp e2)]
    rfl
  replace ht : (0 :: ownOf xs) ∈ trees42 := ht
  have hown : (scanned fun i j => notBelow (cols (wsAt xs i)) (cols (wsAt xs j))) = (0 :: ownOf xs).map fun (k : Nat) => (k : Int) := by
    refine (scanned_congr fun a b h1 h2 => ?_).trans hs
    show _ = !lessB (wsAt xs a) (wsAt xs b)
    rw [hlc a b (by omega) h2, Bool.not_not]
  have hl := List.all_eq_true.mp low_all _ ht
  simp only [Bool.and_eq_true, beq_iff_eq, List.all_eq_true, decide_eq_true_eq] at hl
  have hodd : ∀ k, 1 ≤ k → k < 6 → decide ((wsOf (wsAt xs k)).2.2.2 % 2 = 1) = (oddOf xs).getD k false := fun k _ h2 => by
    have e := eq_of_beq (List.all_eq_true.mp nt_all _ (hw k h2))
    rw [e]
    unfold oddOf wsAt
    rw [mkS_toList, List.getD_eq_getElem?_getD, List.getD_eq_getElem?_getD, List.getElem?_map, List.getElem?_eq_getElem (h6.symm ▸ h2)]
    rfl
  obtain ⟨S, M, p, T⟩ := tree_is ht
  have hc : cutsTo (pathsOf xs) (linesOf xs) 5 = cutsOf (0 :: ownOf xs) (oddOf xs) := cuts_ok ht hodd
  have hplay := playGo_eq (oddOf xs) (cuts0 (0 :: ownOf xs)) 40 [62] []
  rw [T.play] at hplay
  have hW : ∀ i, (M.map (sel (oddOf xs))).getD i ([], []) = sel (oddOf xs) (M.getD i []) := fun i => getD_map' (sel (oddOf xs)) M [] i
  have hlen : (0 :: ownOf xs).length = 6 := hl.1
  refine ⟨page_ok ht, htop, hown, hlen, fun k => ?_, S, M.map (sel (oddOf xs)), p, dueAt (0 :: ownOf xs) (oddOf xs), by rw [hc]; exact hplay, by rw [List.length_map]; exact T.len, T.two, T.most, T.apart, T.run, T.plen, T.plow, ?_, ?_, ?_⟩
  · rcases Nat.lt_or_ge k (0 :: ownOf xs).length with hk | hk
    · rw [List.getD_eq_getElem?_getD, List.getElem?_eq_getElem hk]
      exact hl.2 _ (List.getElem_mem hk)
    · rw [List.getD_eq_getElem?_getD, List.getElem?_eq_none hk]
      decide
  · have hg := good_of (wf := dueAt (0 :: ownOf xs) (oddOf xs)) (odd := oddOf xs) T.order fun q hq => by
      obtain ⟨i, hi, rfl⟩ := List.mem_map.mp hq
      exact stand_val (oddOf xs) (T.stand i (T.plow i hi))
    rw [List.map_map] at hg
    rw [show (p.toList.map fun i => (S.getD i 0, (M.map (sel (oddOf xs))).getD i ([], []))) = p.toList.map ((fun q => (q.1, sel (oddOf xs) q.2)) ∘ fun i => (S.getD i 0, M.getD i [])) from List.map_congr_left fun i _ => by rw [hW]; rfl]
    exact hg
  · unfold dueOf
    rw [List.length_map, List.length_map, T.plen, T.many]
  · intro q hq
    obtain ⟨i, hi, rfl⟩ := List.mem_map.mp hq
    exact List.mem_map.mpr ⟨_, T.each i (T.plow i hi), rfl⟩
end Mine

namespace Mine
theorem law_walk : WalkO ViewQ [Str.ofString "Whitespace"] (XL ViewQ []) (kHook HeapK HeadAs headE).says PySem.Challenge.rw_sw0062_01.row.toRowW LawD [] (fun f vs => PySem.call f vs) := by
  intro w s₀ s₁ mg mb G Y a o pm cd doc dV kV ho hod hcd hD hmg hgens args vals as hpre hlay hrd hwl hlo
  have KX := kIn_of Y
  refine Ground.open G ?_
  intro T B D TE TW
  clear hod hcd hD ho B D TE TW
  wrow_args hpre hlay hrd hwl hlo
  rename_i ns _ _ _ _ _ _ _ sr si _ hL _ _ _ hI _ hc1 _
  have hv : mg (Str.ofString "law") = some (.ref 250) := mg_of KX T.g (by k_is)
  have ha : a = 250 := Value.ref.inj (Option.some.inj (hmg.symm.trans hv))
  subst ha
  have hz : si.length ≤ sizeLine := le_line (by have := hI.length; omega)
  refine wpAny_mono (f_law KX ⟨_, _, _, T⟩ hL hI hz page_law) (fun v s' hx => ?_) (fun _ _ x => x.elim)
  obtain ⟨H, h', tk', rfl, hk, rfl⟩ := hx
  have hp : PySem.Challenge.rw_sw0062_01.row.claim.post [ofPy (PyData.list (List.map PyData.int ns))] (WData.bool true) [ofPy (PyData.list (List.map PyData.int ns))] = true := by
    refine' postW_of ?ps ?pv ?pe
    case ps => o_shape
    case pv => wtm_val
    case pe => w_fin
  exact GoodW.toG ⟨.inl ⟨.bool true, .bool true, [], rfl, fun cls => by rfl, .bool true, hp, fun _ => ⟨List.nodup_nil, fun a ha => nomatch ha⟩⟩, hk, rfl, hgens⟩
end Mine
theorem PySem.Challenge.cw_sw0062_01_holds : PySem.Challenge.rw_sw0062_01.Holds :=
  Mine.headT Mine.law_walk

