import PyProof.Rows.All
import PyProof.NoPylong
import PyProof.AutoSeq1
import PyProof.ListIndex
import PyProof.SliceList
import PyProof.EqAt
import PyProof.NeKinds
import PyProof.SumAny
import PyProof.Rows.RuleDivmod
import Wide.BytesRules
import KE.BytesMake
import KE.KBytesWalk
import KE.KBytesCut
import OpenK.XSim
import Wide.FinOn
import OpenK.AllK
import Wide.All
import Lean
import PySem.Challenge.RW_xr0021_01
set_option Elab.async false
set_option bootstrap.genMatcherCode false
set_option genInjectivity false
set_option genSizeOfSpec false
set_option linter.all false
open PySem PySem.W PySem.W.X PySem.W.ZRun PyProof.Rows
set_option maxRecDepth 100000
set_option maxHeartbeats 0
open _root_.List renaming mem_cons→E2,eq_nil_of_length_eq_zero→E5,replicate→F2,nodup_cons→F3,not_mem_nil→F5,nodup_nil→F8,length_append→G1,length_map→G3,map→G7,range→G8,mem_append→I1,mem_append_left→I5,mem_map→I6,append_nil→I8,mem_append_right→J0,nodup_append→J2,length_cons→K7,filter_cons→K8,forIn_cons→L0,length_singleton→L1,map_append→L2,append_assoc→L4,head?_drop→M2,mem_singleton→M5,forIn_nil→M7,any_cons→N0,nil_append→N4,length_pos_iff→N6,map_cons→O2,getElem?_nil→O4,append_cons→O6,all_eq_true→O7,getElem?_eq_getElem→O8,length_eq_zero_iff→O9,mem_range→P6,length_filter_le→P7,mem_of_getElem? →Q3,replicate_succ→Q7,length_nil→S5,dropWhile→S7,all_cons→S8
open _root_.Int renaming ofNat→E3,ofNat_eq_natCast→E6,fmod→E9,toNat→F0,fdiv→F6,sub_nonneg_of_le→I9,eq_ofNat_of_zero_le→J5,fdiv_eq_ediv_of_nonneg→J7,le_trans→K5,fmod_eq_emod_of_nonneg→M1,fmod_nonneg_of_pos→M8,natCast_add→N3,fmod_lt_of_pos→O1,le_refl→R8
open PySem.Builtin renaming divisionGoesByPylong→E4,keptAs→S6
open _root_.Nat renaming le_trans→E7,add_le_add→F1,le_refl→F4,succ→G6,le_of_ble_eq_true→I2,zero_le→I7,beq→J3,eq_of_beq_eq_true→J9,add_le_add_left→L5,lt_of_succ_lt_succ→L6,not_lt→L9,succ_pos→M3,ble→M6,add_assoc→M9,ne_of_lt→N2,div→N7,mod→N8,le_succ→N9,lt_of_le_of_lt→O0,lt_succ_of_lt→O3,zero_add→O5,le_of_succ_le_succ→P5,not_succ_le_zero→P9,add_left_cancel→Q5,mul_le_mul_left→Q6,mul_succ→R0,lt_of_lt_of_le→R1,ne_of_gt→R2,le_succ_of_le→R5,lt_succ_self→R9,succ_lt_succ→S2,succ_ne_zero→S3,le_add_right→S4
open PySem.Heap renaming get?_push_of_some→E8,get?_update_other→F9,get?_update_self→G2,lt_size→I0,get?_push_size→I4,size_push→J4,size_after_update→J6,SameBut→N1,get?_some_iff→R4
open _root_.Bool renaming false_ne_true→F7,noConfusion→J1,and_eq_true→J8,false_eq_true→K3,not_eq_true'→L7,and_eq_true_iff→M0,or_true→M4,or_eq_false_iff→Q2,false_or→Q4,or_false→S9
open PySem.Around renaming under_plainId→G4
open PySem.Obj renaming mapFields→G9,mapBytearray→K9,isFreed_of_fields→P8,data_mapFields→R3
open _root_.Array renaming size_push→K4,getElem?_eq_some_iff→L3,getElem?_setIfInBounds→L8,getElem?_push→N5,append_empty→Q8,empty_append→Q9,size_append→R6,isEmpty_iff→R7
open _root_.Option renaming bind_eq_some_iff→K6
open PySem renaming Value→T1,Shared→T2,World→T3,Params→T4,FuncData→T5,Program→T6,unsupported→T7,standAt→T8,wpAny_bind→T9,recursionLimit→U0,Tok→U1,Str→U2
namespace Mine
noncomputable def qo4:List Stmt:=Challenge.rw_xr0021_01.row.prog.main.body
noncomputable def fT (i:Nat):Stmt:=(qo4[i]?).getD (.Pass default)
noncomputable def fI (i j:Nat):Stmt:=match fT i with
 | .ClassDef _ _ _ b .. => (b[j]?).getD (.Pass default)
 | s=>s
noncomputable def qmz:Stmt→Arguments
 | .FunctionDef _ a .. => a
 | _=>default
noncomputable def qmy:Stmt→List Stmt
 | .FunctionDef _ _ b .. => b
 | _=>[]
noncomputable def qjX:Stmt→Scope
 | .FunctionDef _ _ _ _ _ _ s .. => s
 | _=>default
noncomputable def en (P:T4) (k:U2) (t:Nat) (v:T1):DictEntry:=⟨PyData.keyHash P k, .str k t,v⟩
noncomputable def eb (P:T4) (b:String) (t:Nat):DictEntry:=⟨PyData.keyHash P (Str.ofString b), .str (Str.ofString b) t, .builtin b⟩
noncomputable def er (P:T4) (k:U2) (t a:Nat):DictEntry:=⟨PyData.keyHash P k, .str k t, .ref a⟩
noncomputable def sq (c:String) (l:List T1):Obj:={cls := .type c,data := .seq ⟨l⟩}
noncomputable def tu (l:List T1):Obj:={cls := .type "tuple",data := .seq ⟨l⟩}
noncomputable def tu0:Obj:={cls := .type "tuple",data := .seq #[]}
noncomputable def nf:Obj:={cls := .none,data := .fields #[]}
noncomputable def di (l:List DictEntry) (n:Nat):Obj:={cls := .type "dict",data := .dict ⟨l⟩ n}
noncomputable def atI (l:List Int) (i:Nat):T1 := .int (l[i]?.getD 0) 0
noncomputable def atR (l:List Nat) (i:Nat):T1 := .ref (l[i]?.getD 0)
noncomputable def co (n q:U2) (t:Nat) (i:List Int) (r:List Nat) (u:Nat):Obj:={cls := .type "code",data := .fields #[.str n t, .str q (t+1), .str "/claim/cut.py" (t+2),atI i 0,atI i 1,atI i 2,atI i 3,atI i 4,atR r 0, .bool true,atI i 5,atR r 1, .none,atR r 2,atR r 3,atR r 4,atI i 6,atI i 7, .str "/claim/cut.py" u]}
noncomputable def fn (s:Stmt) (n q:U2) (g:Nat):T5:={name:=n,qualname:=q,params:=qmz s,body := .stmts (qmy s),scope:=qjX s,globals:=g,closure:=[],defaults := .none,kwdefaults := .none}
noncomputable def fm (f:T5) (m:U2) (t c:Nat):T5:={f with pyModule := .str m t,code := .ref c}
noncomputable def fo (f:T5):Obj:={cls := .type "function",data := .func f}
noncomputable def fz (f:T5):Obj:={cls := .none,data := .func f}
noncomputable abbrev n1 (o:Obj) (l r:KT):KT := .node (some o) l r
noncomputable abbrev n0 (l r:KT):KT := .node none l r
noncomputable abbrev nn:KT := .nil
noncomputable abbrev nl (o:Obj):KT := .node (some o) .nil .nil
namespace h1
noncomputable def k0 (P:T4):KT:=n0 (n0 (n1 (tu [.str "a" 358,.str "x" 359,.str "lo" 360,.str "hi" 361,.str "key" 362,.str "mid" 363]) (n1 tu0 (nl (tu [.str "hosts" 616,.str "lost" 617,.str "great" 618,.str "name" 619,.str "climbs" 620,.str "small" 621])) nn) (nl (fo (fm (fn (fI 13 4) "__len__" "_Accumulator.__len__" 3) "cpy313.email.header" 367 198)))) (n1 (fo (fm (fn (fI 12 2) "__str__" "_ValueFormatter.__str__" 3) "cpy313.email.header" 367 102)) (nl (fz (fn (fI 13 0) "__init__" "_Accumulator.__init__" 0))) (nl (di [en P ⟨⟨[95,95,109,111,100,117,108,101,95,95]⟩⟩ 488 (.str "cpy313.email.header" 367),en P ⟨⟨[95,95,102,105,114,115,116,108,105,110,101,110,111,95,95]⟩⟩ 492 (.int 135 491),er P ⟨⟨[95,95,105,110,105,116,95,95]⟩⟩ 502 169,er P ⟨⟨[112,117,115,104]⟩⟩ 511 176,er P ⟨⟨[112,111,112,95,102,114,111,109]⟩⟩ 521 184,er P ⟨⟨[112,111,112]⟩⟩ 529 192,er P ⟨⟨[95,95,108,101,110,95,95]⟩⟩ 536 199,er P ⟨⟨[95,95,115,116,114,95,95]⟩⟩ 543 206,er P ⟨⟨[114,101,115,101,116]⟩⟩ 551 214,er P ⟨⟨[105,115,95,111,110,108,121,119,115]⟩⟩ 558 221,er P ⟨⟨[112,97,114,116,95,99,111,117,110,116]⟩⟩ 566 229,er P ⟨⟨[95,95,115,116,97,116,105,99,95,97,116,116,114,105,98,117,116,101,115,95,95]⟩⟩ 568 230,er P ⟨⟨[95,95,100,105,99,116,95,95]⟩⟩ 571 233,er P ⟨⟨[95,95,119,101,97,107,114,101,102,95,95]⟩⟩ 573 234,en P ⟨⟨[95,95,100,111,99,95,95]⟩⟩ 574 .none] 5)))) (n1 (fz (fn (fT 5) "reach" "reach" 0)) (n1 (fz (fn (fI 12 0) "__init__" "_ValueFormatter.__init__" 0)) (n0 (nl nf) nn) (nl tu0)) (n1 nf (nl (co "pop_from" "_Accumulator.pop_from" 513 [144,2,0,0,3,276,519,144] [178,179,180,181,182] 520)) (nl ({cls := .type "code",data := .fields #[.str "_law_host" 591,.str "_law_host" 592,.str "/claim/cut.py" 593,.int 181 0,.int 3 0,.int 0 0,.int 0 0,.int 3 0,.ref 244,.bool true,.int 276 0,.ref 245,.none,.none,.none,.ref 246,.int 594 0,.int 181 0,.str "/claim/cut.py" 595]}))))
noncomputable def k1 (P:T4):KT:=n0 (n1 tu0 (n1 (tu [.int 0 353,.none]) (n1 (fo (fm (fn (fI 12 6) "_maxlengths" "_ValueFormatter._maxlengths" 3) "cpy313.email.header" 367 130)) (nl ({cls := .type "code",data := .fields #[.str "_law_ends" 607,.str "_law_ends" 608,.str "/claim/cut.py" 609,.int 198 0,.int 2 0,.int 0 0,.int 0 0,.int 3 0,.ref 256,.bool true,.int 276 0,.ref 257,.none,.none,.none,.ref 258,.int 610 0,.int 198 0,.str "/claim/cut.py" 611]})) nn) (nl (tu [.str "self" 533]))) (n1 (tu [.str "self" 407]) (nl (tu [.str "__class__" 497])) (nl (fz (fn (fI 13 8) "part_count" "_Accumulator.part_count" 0))))) (n1 tu0 (n1 tu0 (n1 (di [en P ⟨⟨[95,95,109,111,100,117,108,101,95,95]⟩⟩ 380 (.str "cpy313.email.header" 367),en P ⟨⟨[95,95,102,105,114,115,116,108,105,110,101,110,111,95,95]⟩⟩ 384 (.int 67 383),er P ⟨⟨[95,95,105,110,105,116,95,95]⟩⟩ 395 89,er P ⟨⟨[95,115,116,114]⟩⟩ 403 96,er P ⟨⟨[95,95,115,116,114,95,95]⟩⟩ 410 103,er P ⟨⟨[110,101,119,108,105,110,101]⟩⟩ 418 110,er P ⟨⟨[97,100,100,95,116,114,97,110,115,105,116,105,111,110]⟩⟩ 425 117,er P ⟨⟨[102,101,101,100]⟩⟩ 435 124,er P ⟨⟨[95,109,97,120,108,101,110,103,116,104,115]⟩⟩ 442 131,er P ⟨⟨[95,97,115,99,105,105,95,115,112,108,105,116]⟩⟩ 452 138,er P ⟨⟨[95,97,112,112,101,110,100,95,99,104,117,110,107]⟩⟩ 466 145,er P ⟨⟨[95,95,115,116,97,116,105,99,95,97,116,116,114,105,98,117,116,101,115,95,95]⟩⟩ 473 146,er P ⟨⟨[95,95,100,105,99,116,95,95]⟩⟩ 475 149,er P ⟨⟨[95,95,119,101,97,107,114,101,102,95,95]⟩⟩ 477 150,en P ⟨⟨[95,95,100,111,99,95,95]⟩⟩ 478 .none] 4) (nl (fz (fn (fT 22) "_law_due" "_law_due" 0))) nn) (nl tu0)) (n1 (fz (fn (fI 12 4) "add_transition" "_ValueFormatter.add_transition" 0)) (nl nf) (nl (fo (fm (fn (fT 15) "Int2AP" "Int2AP" 3) "cpy313.imaplib" 577 242)))))
noncomputable def k2 (P:T4):KT:=n1 (di [en P ⟨⟨[95,95,110,97,109,101,95,95]⟩⟩ 247 (.str "_sre" 246),en P ⟨⟨[95,95,100,111,99,95,95]⟩⟩ 248 .none,en P ⟨⟨[95,95,112,97,99,107,97,103,101,95,95]⟩⟩ 250 (.str ⟨#[]⟩ 249),en P ⟨⟨[95,95,108,111,97,100,101,114,95,95]⟩⟩ 251 (.builtin "off-the-table:_sre.__loader__:shared#opaque"),en P ⟨⟨[95,95,115,112,101,99,95,95]⟩⟩ 252 (.builtin "off-the-table:_sre.__spec__:shared#opaque"),en P ⟨⟨[99,111,109,112,105,108,101]⟩⟩ 253 (.builtin "_sre.compile"),en P ⟨⟨[116,101,109,112,108,97,116,101]⟩⟩ 254 (.builtin "off-the-table:_sre.template:shared#opaque"),en P ⟨⟨[103,101,116,99,111,100,101,115,105,122,101]⟩⟩ 255 (.builtin "off-the-table:_sre.getcodesize:shared#opaque"),en P ⟨⟨[97,115,99,105,105,95,105,115,99,97,115,101,100]⟩⟩ 256 (.builtin "off-the-table:_sre.ascii_iscased:shared#opaque"),en P ⟨⟨[117,110,105,99,111,100,101,95,105,115,99,97,115,101,100]⟩⟩ 257 (.builtin "off-the-table:_sre.unicode_iscased:shared#opaque"),en P ⟨⟨[97,115,99,105,105,95,116,111,108,111,119,101,114]⟩⟩ 258 (.builtin "off-the-table:_sre.ascii_tolower:shared#opaque"),en P ⟨⟨[117,110,105,99,111,100,101,95,116,111,108,111,119,101,114]⟩⟩ 259 (.builtin "off-the-table:_sre.unicode_tolower:shared#opaque"),en P ⟨⟨[77,65,71,73,67]⟩⟩ 261 (.int 20230612 260),en P ⟨⟨[67,79,68,69,83,73,90,69]⟩⟩ 263 (.int 4 262),en P ⟨⟨[77,65,88,82,69,80,69,65,84]⟩⟩ 265 (.int 4294967295 264),en P ⟨⟨[77,65,88,71,82,79,85,80,83]⟩⟩ 267 (.int 1073741823 266),en P ⟨⟨[99,111,112,121,114,105,103,104,116]⟩⟩ 269 (.str " SRE 2.2.2 Copyright (c) 1997-2002 by Secret Labs AB " 268)] 17) (k1 P) (n0 (n1 ({cls := .type "re.Pattern",data := .fields #[.str "\x5c.\x5cd+$" 292,.int 256 319,.int 0 0,.none,.none,.ref 42,.int 0 0]}) (n1 (fo {fm (fn (fT 8) "bisect_left" "bisect_left" 3) "cpy313.bisect" 337 74 with defaults := .ref 67,kwdefaults := .ref 68}) (n1 tu0 (nl (fo (fm (fn (fT 20) "_law_lost" "_law_lost" 3) "law_xr0021_01" 589 266))) nn) (nl tu0)) (n1 tu0 (nl nf) nn)) (n1 (di [en P ⟨⟨[107,101,121]⟩⟩ 340 .none] 1) (n1 nf (n0 (nl (co "_law_bounds" "_law_bounds" 637 [237,2,0,0,3,276,645,237] [278,279,280,281,282] 646)) nn) (nl (fz (fn (fI 13 7) "is_onlyws" "_Accumulator.is_onlyws" 0)))) (n1 (co "feed" "_ValueFormatter.feed" 426 [98,4,0,0,3,276,433,98] [118,119,120,121,122] 434) (nl nf) (nl (tu [.str "name" 600,.str "rungs" 601,.str "turn" 602,.str "above" 603])))))
noncomputable def k3 (P:T4):KT:=n1 (di [en P ⟨⟨[95,95,110,97,109,101,95,95]⟩⟩ 165 (.str "law_xr0021_01" 589),en P ⟨⟨[95,95,100,111,99,95,95]⟩⟩ 166 .none,en P ⟨⟨[95,95,112,97,99,107,97,103,101,95,95]⟩⟩ 167 .none,en P ⟨⟨[95,95,108,111,97,100,101,114,95,95]⟩⟩ 168 (.builtin "__main__.__loader__#opaque"),en P ⟨⟨[95,95,115,112,101,99,95,95]⟩⟩ 169 .none,er P ⟨⟨[95,95,97,110,110,111,116,97,116,105,111,110,115,95,95]⟩⟩ 170 6,er P ⟨⟨[95,95,98,117,105,108,116,105,110,115,95,95]⟩⟩ 171 4,en P ⟨⟨[95,95,102,105,108,101,95,95]⟩⟩ 173 (.str "/claim/cut.py" 172),en P ⟨⟨[95,95,99,97,99,104,101,100,95,95]⟩⟩ 174 .none,er P ⟨⟨[95,115,114,101]⟩⟩ 275 12,er P ⟨⟨[95,119,97,108,108]⟩⟩ 288 38,er P ⟨⟨[73,80,86,52,95,82,69]⟩⟩ 320 43,er P ⟨⟨[105,115,95,72,68,78]⟩⟩ 327 50,er P ⟨⟨[114,101,97,99,104]⟩⟩ 336 57,er P ⟨⟨[98,105,115,101,99,116,95,114,105,103,104,116]⟩⟩ 352 66,er P ⟨⟨[98,105,115,101,99,116,95,108,101,102,116]⟩⟩ 366 75,en P ⟨⟨[78,76]⟩⟩ 370 (.str "\x0a" 369),en P ⟨⟨[69,77,80,84,89,83,84,82,73,78,71]⟩⟩ 372 (.str ⟨#[]⟩ 371),er P ⟨⟨[95,86,97,108,117,101,70,111,114,109,97,116,116,101,114]⟩⟩ 480 148,er P ⟨⟨[95,65,99,99,117,109,117,108,97,116,111,114]⟩⟩ 576 232,er P ⟨⟨[73,110,116,50,65,80]⟩⟩ 588 243,er P ⟨⟨[95,108,97,119,95,104,111,115,116]⟩⟩ 596 248,er P ⟨⟨[95,108,97,119,95,114,117,110,103,115]⟩⟩ 606 255,er P ⟨⟨[95,108,97,119,95,101,110,100,115]⟩⟩ 612 260,er P ⟨⟨[95,108,97,119,95,108,111,115,116]⟩⟩ 624 267,er P ⟨⟨[95,108,97,119,95,109,111,118,101,115]⟩⟩ 630 272,er P ⟨⟨[95,108,97,119,95,100,117,101]⟩⟩ 636 277,er P ⟨⟨[95,108,97,119,95,98,111,117,110,100,115]⟩⟩ 647 284,er P ⟨⟨[108,97,119]⟩⟩ 653 289] 29) (n1 tu0 (n1 tu0 (n0 (n1 tu0 (n1 (tu [.str "self" 439]) (nl (fo (fm (fn (fT 18) "_law_rungs" "_law_rungs" 3) "law_xr0021_01" 589 254))) nn) (nl (co "pop" "_Accumulator.pop" 522 [149,1,0,0,3,276,527,149] [186,187,188,189,190] 528))) (n1 (co "_str" "_ValueFormatter._str" 396 [77,2,0,0,3,276,401,77] [90,91,92,93,94] 402) (n0 (nl (fz (fn (fT 24) "law" "law" 0))) nn) (nl (tu [.str "__class__" 562])))) (n1 tu0 (n0 (n1 (fz (fn (fI 12 8) "_append_chunk" "_ValueFormatter._append_chunk" 0)) (nl ({cls := .type "code",data := .fields #[.str "_law_moves" 625,.str "_law_moves" 626,.str "/claim/cut.py" 627,.int 212 0,.int 3 0,.int 0 0,.int 0 0,.int 3 0,.ref 268,.bool true,.int 276 0,.ref 269,.none,.none,.none,.ref 270,.int 628 0,.int 212 0,.str "/claim/cut.py" 629]})) nn) (nl (tu [.none]))) (n1 tu0 (nl (co "push" "_Accumulator.push" 503 [141,3,0,0,3,276,509,141] [170,171,172,173,174] 510)) (nl (tu [.str "num" 582,.str "val" 583,.str "AP" 584,.str "mod" 585]))))) (k0 P)) (k2 P)
noncomputable def k4 (P:T4):KT:=n1 ({cls := .type "code",data := .fields #[.str "<module>" 176,.str "<module>" 177,.str "/claim/cut.py" 178,.int 1 0,.int 0 0,.int 0 0,.int 0 0,.int 0 0,.ref 7,.bool false,.int 175 0,.ref 8,.none,.none,.none,.none,.int 179 0,.int 1 0,.str "/claim/cut.py" 180]}) (n0 (n1 nf (n1 (co "bisect_right" "bisect_right" 341 [24,4,0,1,3,276,350,24] [60,61,62,63,64] 351) (n1 (fz (fn (fI 12 6) "_maxlengths" "_ValueFormatter._maxlengths" 0)) (nl nf) nn) (nl tu0)) (n1 tu0 (n1 (tu [.int 0 493]) (nl (fo (fm (fn (fT 24) "law" "law" 3) "law_xr0021_01" 589 288))) nn) (nl (tu [.str "self" 563])))) (n1 (co "is_HDN" "is_HDN" 321 [7,1,0,0,3,276,325,7] [44,45,46,47,48] 326) (n0 (n1 (fo (fm (fn (fI 12 8) "_append_chunk" "_ValueFormatter._append_chunk" 3) "cpy313.email.header" 367 144)) (nl tu0) nn) (nl nf)) (n1 (tu [.str "self" 422]) (nl (tu [.int 0 512])) (nl (fz (fn (fT 15) "Int2AP" "Int2AP" 0)))))) (n0 (n0 (n1 (fz (fn (fT 8) "bisect_left" "bisect_left" 0)) (n1 (co "_ascii_split" "_ValueFormatter._ascii_split" 443 [106,4,0,0,3,276,450,106] [132,133,134,135,136] 451) (nl (fz (fn (fT 20) "_law_lost" "_law_lost" 0))) nn) (nl nf)) (n1 nf (nl (fo {fm (fn (fI 13 0) "__init__" "_Accumulator.__init__" 3) "cpy313.email.header" 367 168 with closure:=[("__class__",156)],defaults := .ref 161,closureTuple := .ref 162})) (nl ({cls := .type "getset_descriptor",data := .fields #[.str "__dict__" 570,.ref 232,.builtin "function.__dict__",.builtin "function.__dict__#set"]})))) (n1 (fo (fm (fn (fT 5) "reach" "reach" 3) "cpy313.http.cookiejar" 289 56)) (n1 (fo (fm (fn (fI 12 0) "__init__" "_ValueFormatter.__init__" 3) "cpy313.email.header" 367 88)) (n1 (tu [.type "list"]) (nl tu0) nn) (nl (tu [.str "self" 555]))) (n1 tu0 (nl (tu [.ref 156])) (nl tu0))))
noncomputable def k5 (P:T4):KT:=n1 (di [en P ⟨⟨[95,95,109,111,100,117,108,101,95,95]⟩⟩ 189 (.str "_frozen_importlib" 186),en P ⟨⟨[95,95,102,105,114,115,116,108,105,110,101,110,111,95,95]⟩⟩ 190 (.int 971 187),en P ⟨⟨[95,95,100,111,99,95,95]⟩⟩ 191 (.builtin "_frozen_importlib.BuiltinImporter.__doc__:str#opaque"),en P ⟨⟨[95,79,82,73,71,73,78]⟩⟩ 192 (.str "built-in" 188),en P ⟨⟨[102,105,110,100,95,115,112,101,99]⟩⟩ 193 (.builtin "_frozen_importlib.BuiltinImporter.find_spec#opaque"),en P ⟨⟨[99,114,101,97,116,101,95,109,111,100,117,108,101]⟩⟩ 194 (.builtin "_frozen_importlib.BuiltinImporter.create_module#opaque"),en P ⟨⟨[101,120,101,99,95,109,111,100,117,108,101]⟩⟩ 195 (.builtin "_frozen_importlib.BuiltinImporter.exec_module#opaque"),en P ⟨⟨[103,101,116,95,99,111,100,101]⟩⟩ 196 (.builtin "_frozen_importlib.BuiltinImporter.get_code#opaque"),en P ⟨⟨[103,101,116,95,115,111,117,114,99,101]⟩⟩ 197 (.builtin "_frozen_importlib.BuiltinImporter.get_source#opaque"),en P ⟨⟨[105,115,95,112,97,99,107,97,103,101]⟩⟩ 198 (.builtin "_frozen_importlib.BuiltinImporter.is_package#opaque"),en P ⟨⟨[108,111,97,100,95,109,111,100,117,108,101]⟩⟩ 199 (.builtin "_frozen_importlib.BuiltinImporter.load_module#opaque"),er P ⟨⟨[95,95,115,116,97,116,105,99,95,97,116,116,114,105,98,117,116,101,115,95,95]⟩⟩ 200 15,er P ⟨⟨[95,95,100,105,99,116,95,95]⟩⟩ 202 16,er P ⟨⟨[95,95,119,101,97,107,114,101,102,95,95]⟩⟩ 204 17] 14) (n0 (n1 (co "_wall" "_wall" 282 [2,1,0,0,3,276,286,2] [32,33,34,35,36] 287) (n1 tu0 (n1 nf (nl tu0) nn) (nl (fz (fn (fI 13 4) "__len__" "_Accumulator.__len__" 0)))) (n1 (fz (fn (fI 12 2) "__str__" "_ValueFormatter.__str__" 0)) (nl (tu [.str "self" 498,.str "initial_size" 499])) (nl (fo {fm (fn (fI 13 8) "part_count" "_Accumulator.part_count" 3) "cpy313.email.header" 367 228 with closure:=[("__class__",156)],closureTuple := .ref 222})))) (n1 (tu [.str "h" 331,.str "i" 332,.str "b" 333]) (n1 (tu [.str "self" 388,.str "headerlen" 389,.str "maxlen" 390,.str "continuation_ws" 391,.str "splitchars" 392]) (n1 ({cls := .type "getset_descriptor",data := .fields #[.str "__dict__" 474,.ref 148,.builtin "function.__dict__",.builtin "function.__dict__#set"]}) (nl (fo (fm (fn (fT 22) "_law_due" "_law_due" 3) "law_xr0021_01" 589 276))) nn) (nl (co "reset" "_Accumulator.reset" 544 [160,2,0,0,3,276,549,160] [208,209,210,211,212] 550))) (n1 (fo (fm (fn (fI 12 4) "add_transition" "_ValueFormatter.add_transition" 3) "cpy313.email.header" 367 116)) (nl tu0) (nl nf)))) (n0 (n1 nf (n0 (n1 (tu [.str "self" 456,.str "fws" 457,.str "string" 458,.str "ch" 459,.str "i" 460,.str "prevpart" 461,.str "part" 462,.str "remainder" 463]) (nl nf) nn) (nl (co "__str__" "_Accumulator.__str__" 537 [157,1,0,0,3,276,541,157] [200,201,202,203,204] 542))) (n1 (co "newline" "_ValueFormatter.newline" 411 [84,1,0,0,3,276,416,84] [104,105,106,107,108] 417) (nl tu0) (nl tu0))) (n1 nf (n1 tu0 (n0 (nl tu0) nn) (nl (fo (fm (fn (fI 13 7) "is_onlyws" "_Accumulator.is_onlyws" 3) "cpy313.email.header" 367 220)))) (n1 tu0 (nl tu0) (nl (fz (fn (fT 18) "_law_rungs" "_law_rungs" 0))))))
noncomputable def k6 (P:T4):KT:=n1 nf (n0 (n1 tu0 (n1 (fz (fn (fT 7) "bisect_right" "bisect_right" 0)) (n1 tu0 (nl tu0) nn) (nl (fo {fm (fn (fI 13 3) "pop" "_Accumulator.pop" 3) "cpy313.email.header" 367 191 with closure:=[("__class__",156)],closureTuple := .ref 185}))) (n1 (fo (fm (fn (fI 12 1) "_str" "_ValueFormatter._str" 3) "cpy313.email.header" 367 95)) (n0 (nl ({cls := .type "code",data := .fields #[.str "law" 648,.str "law" 649,.str "/claim/cut.py" 650,.int 253 0,.int 1 0,.int 0 0,.int 0 0,.int 3 0,.ref 285,.bool true,.int 276 0,.ref 286,.none,.none,.none,.ref 287,.int 651 0,.int 253 0,.str "/claim/cut.py" 652]})) nn) (nl nf))) (n1 (fz (fn (fT 4) "is_HDN" "is_HDN" 0)) (n0 (n1 (co "_append_chunk" "_ValueFormatter._append_chunk" 453 [109,3,0,0,3,276,464,109] [139,140,141,142,143] 465) (nl (fo (fm (fn (fT 21) "_law_moves" "_law_moves" 3) "law_xr0021_01" 589 271))) nn) (nl tu0)) (n1 nf (nl (fo (fm (fn (fI 13 1) "push" "_Accumulator.push" 3) "cpy313.email.header" 367 175))) (nl tu0)))) (n0 (n0 (n1 tu0 (n1 (fz (fn (fI 12 7) "_ascii_split" "_ValueFormatter._ascii_split" 0)) (nl tu0) nn) (nl tu0)) (n1 tu0 (nl (co "__init__" "_Accumulator.__init__" 494 [137,2,0,0,3,276,500,137] [163,164,165,166,167] 501)) (nl ({cls := .type "type",data := .cls {name:="_Accumulator",bases:=[.type "list"],mro:=[.ref 232,.type "list",.type "object"],ns:=231,qualname:="_Accumulator"},slots := #[some (.ref 153),none,some (.str "_Accumulator" 481),some (.str "_Accumulator" 489),some (.builtin "list.__new__"),some (.bool true)]})))) (n1 (co "reach" "reach" 328 [15,1,0,0,3,276,334,15] [51,52,53,54,55] 335) (n1 (co "__init__" "_ValueFormatter.__init__" 385 [69,5,0,0,3,276,393,69] [83,84,85,86,87] 394) (n0 (nl (tu [.str "letters" 640,.str "rooms" 641,.str "least" 642,.str "most" 643,.str "told" 644])) nn) (nl nf)) (n1 (tu [.str "self" 429,.str "fws" 430,.str "string" 431,.str "charset" 432]) (nl (fo {fm (fn (fI 13 2) "pop_from" "_Accumulator.pop_from" 3) "cpy313.email.header" 367 183 with defaults := .ref 177})) (nl (fo (fm (fn (fT 17) "_law_host" "_law_host" 3) "law_xr0021_01" 589 247))))))
noncomputable def k7 (P:T4):KT:=n1 ({cls := .type "module",dict:=some 11}) (n0 (n1 (fz (fn (fT 1) "_wall" "_wall" 0)) (n1 (di [en P ⟨⟨[107,101,121]⟩⟩ 354 .none] 1) (n1 tu0 (nl (fo (fm (fn (fT 19) "_law_ends" "_law_ends" 3) "law_xr0021_01" 589 259))) nn) (nl tu0)) (n1 tu0 (nl nf) (nl (co "part_count" "_Accumulator.part_count" 559 [169,1,0,0,3,276,564,169] [223,224,225,226,227] 565)))) (n1 nf (n1 nf (n1 ({cls := .type "type",data := .cls {name:="_ValueFormatter",bases:=[.type "object"],mro:=[.ref 148,.type "object"],ns:=147,qualname:="_ValueFormatter"},slots := #[none,none,some (.str "_ValueFormatter" 373),some (.str "_ValueFormatter" 381),some (.builtin "object.__new__"),some (.bool true)]}) (nl ({cls := .type "code",data := .fields #[.str "_law_due" 631,.str "_law_due" 632,.str "/claim/cut.py" 633,.int 231 0,.int 2 0,.int 0 0,.int 0 0,.int 3 0,.ref 273,.bool true,.int 276 0,.ref 274,.none,.none,.none,.ref 275,.int 634 0,.int 231 0,.str "/claim/cut.py" 635]})) nn) (nl (fz (fn (fI 13 6) "reset" "_Accumulator.reset" 0)))) (n1 (co "add_transition" "_ValueFormatter.add_transition" 419 [95,1,0,0,3,276,423,95] [111,112,113,114,115] 424) (nl (tu [.str "self" 516,.str "i" 517,.str "popped" 518])) (nl tu0)))) (n0 (n1 tu0 (n0 (n1 nf (nl tu0) nn) (nl (fz (fn (fI 13 5) "__str__" "_Accumulator.__str__" 0)))) (n1 (fz (fn (fI 12 3) "newline" "_ValueFormatter.newline" 0)) (nl (tu [.str "self" 506,.str "fws" 507,.str "string" 508])) nn)) (n1 tu0 (n1 (tu [.str "self" 399,.str "linesep" 400]) (n1 ({cls := .type "cell",data := .cell (some (.ref 232))}) (nl (fo (fm (fn (fT 23) "_law_bounds" "_law_bounds" 3) "law_xr0021_01" 589 283))) nn) (nl (co "is_onlyws" "_Accumulator.is_onlyws" 552 [166,1,0,0,3,276,556,166] [215,216,217,218,219] 557))) (n1 (fo (fm (fn (fI 12 5) "feed" "_ValueFormatter.feed" 3) "cpy313.email.header" 367 123)) (nl (tu [.str "self" 526])) (nl tu0))))
noncomputable def k8 (P:T4):KT:=n1 ({cls := .type "frame",slots := #[some (.ref 9),some (.ref 3),some (.ref 3),none,some (.str "__main__" 164),none,some (.ref 0)]}) (n0 (n1 (tu [.str "k" 285]) (n1 (fo {fm (fn (fT 7) "bisect_right" "bisect_right" 3) "cpy313.bisect" 337 65 with defaults := .ref 58,kwdefaults := .ref 59}) (n1 (co "_maxlengths" "_ValueFormatter._maxlengths" 436 [101,1,0,0,35,276,440,101] [125,126,127,128,129] 441) (nl (fz (fn (fT 19) "_law_ends" "_law_ends" 0))) nn) (nl nf)) (n1 nf (nl (tu [.ref 156])) (nl tu0))) (n1 (fo (fm (fn (fT 4) "is_HDN" "is_HDN" 3) "cpy313.http.cookiejar" 289 49)) (n0 (n1 (tu [.str "_continuation_ws" 467,.str "_continuation_ws_len" 468,.str "_current_line" 469,.str "_lines" 470,.str "_maxlen" 471,.str "_splitchars" 472]) (nl nf) nn) (nl (tu [.str "self" 547,.str "startval" 548]))) (n1 tu0 (nl tu0) (nl (co "Int2AP" "Int2AP" 579 [172,1,0,0,3,276,586,172] [237,238,239,240,241] 587))))) (n0 (n1 (tu [.int 14 0,.int 8 0,.int 1 0,.int 2 0,.int 4294967295 0,.int 1 0,.int 1 0,.int 46 0,.int 0 0,.int 16 0,.int 46 0,.int 24 0,.int 9 0,.int 1 0,.int 4294967295 0,.int 13 0,.int 4 0,.int 8 0,.int 0 0,.int 0 0,.int 1 0,.int 6 0,.int 5 0,.int 1 0]) (n1 (co "bisect_left" "bisect_left" 355 [44,4,0,1,3,276,364,44] [69,70,71,72,73] 365) (n1 (fo (fm (fn (fI 12 7) "_ascii_split" "_ValueFormatter._ascii_split" 3) "cpy313.email.header" 367 137)) (nl (co "_law_lost" "_law_lost" 613 [200,1,0,0,3,276,622,200] [261,262,263,264,265] 623)) nn) (nl (tu [.str "self" 540]))) (n1 (tu [.str "self" 414,.str "end_of_line" 415]) (nl tu0) (nl ({cls := .type "getset_descriptor",data := .fields #[.str "__weakref__" 572,.ref 232,.builtin "ExceptionGroup.__weakref__",.none]})))) (n1 (tu [.int 0 339,.none]) (n1 tu0 (n0 (nl (fz (fn (fT 23) "_law_bounds" "_law_bounds" 0))) nn) (nl tu0)) (n1 (fz (fn (fI 12 5) "feed" "_ValueFormatter.feed" 0)) (nl (tu [.str "__class__" 525])) (nl nf))))
noncomputable def k9 (P:T4):KT:=n1 ({cls := .type "type",data := .cls {name:="BuiltinImporter",bases:=[.type "object"],mro:=[.ref 14,.type "object"],ns:=13,qualname:="BuiltinImporter"}}) (n0 (n1 (fo (fm (fn (fT 1) "_wall" "_wall" 3) "__main__" 164 37)) (n1 nf (n1 (tu [.str "self" 446,.str "fws" 447,.str "string" 448,.str "splitchars" 449]) (nl nf) nn) (nl (co "__len__" "_Accumulator.__len__" 530 [154,1,0,0,3,276,534,154] [193,194,195,196,197] 535))) (n1 (co "__str__" "_ValueFormatter.__str__" 404 [81,1,0,0,3,276,408,81] [97,98,99,100,101] 409) (nl tu0) (nl (tu [.str "_initial_size" 567])))) (n1 tu0 (n1 tu0 (n1 ({cls := .type "getset_descriptor",data := .fields #[.str "__weakref__" 476,.ref 148,.builtin "ExceptionGroup.__weakref__",.none]}) (nl tu0) nn) (nl (fo {fm (fn (fI 13 6) "reset" "_Accumulator.reset" 3) "cpy313.email.header" 367 213 with defaults := .ref 207}))) (n1 tu0 (nl (fz (fn (fI 13 2) "pop_from" "_Accumulator.pop_from" 0))) (nl (fz (fn (fT 17) "_law_host" "_law_host" 0)))))) (n0 (n1 (tu [.str "text" 324]) (n0 (n1 tu0 (nl (fz (fn (fT 21) "_law_moves" "_law_moves" 0))) nn) (nl (fo (fm (fn (fI 13 5) "__str__" "_Accumulator.__str__" 3) "cpy313.email.header" 367 205)))) (n1 (fo (fm (fn (fI 12 3) "newline" "_ValueFormatter.newline" 3) "cpy313.email.header" 367 109)) (nl (fz (fn (fI 13 1) "push" "_Accumulator.push" 0))) (nl nf))) (n1 (tu [.str "a" 344,.str "x" 345,.str "lo" 346,.str "hi" 347,.str "key" 348,.str "mid" 349]) (n1 (fz (fn (fI 12 1) "_str" "_ValueFormatter._str" 0)) (n0 (nl nf) nn) (nl (tu [.ref 156]))) (n1 nf (nl (fz (fn (fI 13 3) "pop" "_Accumulator.pop" 0))) (nl (co "_law_rungs" "_law_rungs" 597 [190,1,0,0,3,276,604,190] [249,250,251,252,253] 605)))))
noncomputable def k10 (P:T4):KT:=n1 (boot_o_0 P) (n1 (di [er P ⟨⟨[98,117,105,108,116,105,110,115]⟩⟩ 162 4,er P ⟨⟨[95,95,109,97,105,110,95,95]⟩⟩ 163 5,er P ⟨⟨[95,115,114,101]⟩⟩ 244 12] 3) (k3 P) (n1 ({cls := .type "module",dict:=some 3}) (k4 P) (k5 P))) (n1 ({cls := .none,data := .dict #[en P ⟨⟨[105,109,112,111,114,116,46,108,111,97,100,101,100,46,95,115,114,101]⟩⟩ 183 (.bool true),er P ⟨⟨[99,108,97,115,115,46,95,102,114,111,122,101,110,95,105,109,112,111,114,116,108,105,98,46,66,117,105,108,116,105,110,73,109,112,111,114,116,101,114]⟩⟩ 185 14,er P ⟨⟨[119,97,116,99,104,101,100,46,105,109,112,111,114,116]⟩⟩ 206 18,er P ⟨⟨[99,108,97,115,115,46,95,102,114,111,122,101,110,95,105,109,112,111,114,116,108,105,98,46,77,111,100,117,108,101,83,112,101,99]⟩⟩ 216 22,en P ⟨⟨[115,121,115,46,109,111,100,117,108,101,115,46,98,111,111,107,101,100,45,101,112,111,99,104]⟩⟩ 245 (.int 3 0),en P ⟨⟨[105,109,112,111,114,116,46,108,97,116,101,114,45,108,97,105,100,46,95,115,114,101]⟩⟩ 270 (.bool true),er P ⟨⟨[119,97,116,99,104,101,100,46,108,105,98,114,97,114,121]⟩⟩ 272 27,en P ⟨⟨[119,97,116,99,104,101,100,46,108,105,98,114,97,114,121,45,111,98,106,101,99,116,115]⟩⟩ 0 (.str "\x0c" 0),en P ⟨⟨[119,97,116,99,104,101,100,46,108,105,98,114,97,114,121,45,100,101,101,112,46,95,115,114,101]⟩⟩ 273 (.str "\x04\x00\x00\x0b\x04\x00\x00\x0b\x04\x00\x00\x03\x04\x00\x00\x0b\x08\x04dict\x02" 0)] 9}) (n1 ({cls := .type "module",dict:=some 0}) (k6 P) (k7 P)) (n1 (di [] 0) (k8 P) (k9 P)))
noncomputable def ktop_579 (P:T4):KT:=(k10 P)
end h1
section
noncomputable def ofL:List Obj→BT→Nat→Option (BT×Nat)
 | [],T,n=>some (T,n)
 | o::l,T,n=>match ((T.ins n o).get n).isSome with
  | true=>ofL l (T.ins n o) (n+1)
  | false=>none
theorem qeE {life:Life}:∀{l:List Obj} {T:BT} {n:Nat} {r:BT×Nat},ofL l T n=some r→absHeap r.1 r.2 life=⟨(absHeap T n life).objs++l.toArray,life⟩
 | [],T,n,r,h=>by
  cases h
  show absHeap T n life=⟨(absHeap T n life).objs ++ #[],life⟩
  rw [Q8]
  rfl
 | o::l,T,n,r,h=>by
  unfold ofL at h
  cases e:((T.ins n o).get n).isSome with
  | false=>rw [e] at h;cases h
  | true =>
   rw [e] at h
   rw [qeE h,absHeap_ins e]
   show Heap.mk ((absHeap T n life).objs.push o++l.toArray) life=_
   refine congrArg (Heap.mk · life) ?_
   apply Array.toList_inj.mp
   simp
noncomputable def onT (s:T2):Option SharedT:=match ofL s.heap.objs.toList .nil 0 with
 | some r=>some ⟨r.1,r.2,s.heap.life,s.gens,s.drawn,s.toks,s.os⟩
 | none=>none
theorem qeD {s:T2} {t:SharedT} (h:onT s=some t):t.abs=s:=by
 obtain ⟨⟨os,life⟩,gens,drawn,toks,o⟩:=s
 unfold onT at h
 cases e:ofL os.toList .nil 0 with
 | none=>rw [show (Shared.mk ⟨os,life⟩ gens drawn toks o).heap.objs.toList=os.toList from rfl,e] at h;cases h
 | some r =>
  rw [show (Shared.mk ⟨os,life⟩ gens drawn toks o).heap.objs.toList=os.toList from rfl,e] at h
  cases h
  have z:=qeE (life:=life) e
  have z0:(absHeap .nil 0 life).objs++os.toList.toArray=os:=by
   rw [show (absHeap .nil 0 life).objs = #[] from rfl,Q9,Array.toArray_toList]
  rw [z0] at z
  show Shared.mk (absHeap r.1 r.2 life) gens drawn toks o=_
  rw [z]
section
variable {tb:String→Option Builtin} {p:T6} {w:T3} {n₀:Nat} {ann:Option T1}
noncomputable def qba (tb:String→Option Builtin) (p:T6) (w:T3) (n₀:Nat) (ann:Option T1):Nat→SharedT→Thread→Option SharedT
 | 0,_,_=>none
 | n+1,s,t=>match through t with
  | true=>some s
  | false=>match stepOk n₀ ann t with
   | false=>none
   | true=>match stepT (denote tb) p w s t with
    | some x=>qba tb p w n₀ ann n x.1 x.2
    | none=>none
theorem qf2:∀{n:Nat} {s r:SharedT} {t:Thread},qba tb p w n₀ ann n s t=some r→topRun tb p w n₀ ann n s.abs t=some r.abs
 | 0,_,_,_,h=>nomatch h
 | n+1,s,r,t,h=>by
  unfold qba at h
  unfold topRun
  cases e:through t with
  | true=>rw [e] at h;cases h;rfl
  | false =>
   rw [e] at h
   cases k:stepOk n₀ ann t with
   | false=>rw [k] at h;cases h
   | true =>
    rw [k] at h
    cases q:stepT (denote tb) p w s t with
    | none=>rw [q] at h;cases h
    | some x=>obtain ⟨s',t'⟩:=x;rw [q] at h;rw [stepT_spec q];exact qf2 h
noncomputable def qhQ (tb:String→Option Builtin) (p:T6) (w:T3):Nat→SharedT→Thread→Option SharedT
 | 0,_,_=>none
 | n+1,s,t=>match t.atExitBegin with
  | some []=>some s
  | some (_::_)=>none
  | none=>match stepT (denote tb) p w s t with
   | some x=>qhQ tb p w n x.1 x.2
   | none=>none
theorem qgy:∀{n:Nat} {s r:SharedT} {t:Thread},qhQ tb p w n s t=some r→importEnds tb p w n s.abs t=some r.abs
 | 0,_,_,_,h=>nomatch h
 | n+1,s,r,t,h=>by
  unfold qhQ at h
  unfold importEnds
  cases e:t.atExitBegin with
  | some l=>cases l with
   | nil=>rw [e] at h;cases h;rfl
   | cons _ _=>rw [e] at h;cases h
  | none =>
   rw [e] at h
   cases q:stepT (denote tb) p w s t with
   | none=>rw [q] at h;cases h
   | some x=>obtain ⟨s',t'⟩:=x;rw [q] at h;rw [stepT_spec q];exact qgy h
noncomputable def fencedT (tb:String→Option Builtin) (p:T6) (w:T3) (N:Nat):Option T2 :=
 (onT (start (opening p)).1).bind λs=>(qhQ tb (opening p) w N s (start (opening p)).2).bind λs=>fenceModules? p s.abs
theorem qhY {N:Nat} {r:T2} (h:fencedT tb p w N=some r):fencedOpening tb p w N=some r:=by
 unfold fencedT at h
 obtain ⟨s,e,h⟩:=K6.mp h
 obtain ⟨t,f,h⟩:=K6.mp h
 unfold fencedOpening
 have z:=qgy f
 rw [qeD e] at z
 rw [z]
 exact h
noncomputable def qdN (tb:String→Option Builtin) (p:T6) (w:T3) (N:Nat) (s₀:T2):Option T2 :=
 match s₀.heap.isNs mainGlobals&&s₀.gens.size==0 with
 | true=>(onT s₀).bind λt=>(qba tb p w t.n (s₀.heap.nsMap mainGlobals "__annotations__") N t (topStub p)).bind λs₁=>match staticsOk (importedModules p.main.body) s₀.heap s₁.abs.heap&&namesBound p s₁.abs.heap&&gensDone s₁.abs&&laidKept s₀.heap s₁.abs.heap with
  | true=>some s₁.abs
  | false=>none
 | false=>none
theorem qly {N:Nat} {s₀ r:T2} (h:qdN tb p w N s₀=some r):topFrom tb p w N s₀=some r:=by
 unfold qdN at h
 unfold topFrom
 cases q:(s₀.heap.isNs mainGlobals&&s₀.gens.size==0) with
 | false=>rw [q] at h;cases h
 | true =>
  rw [q] at h
  obtain ⟨t,e,h⟩:=K6.mp h
  obtain ⟨s₁,f,h⟩:=K6.mp h
  have z:=qf2 f
  have y:=qeD e
  have sz:t.n=s₀.heap.objs.size:=by rw [←y];exact (absHeap_size t.tree t.n t.life).symm
  rw [y,sz] at z
  show (topRun tb p w _ _ N s₀ (topStub p)).bind _=_
  rw [z]
  exact h
theorem qnn {q:T6} {loose:List U2} {Xt:T2→Bool} {α:Type} {Yf:T2→α} {Ya:T3→α} {N:Nat} {S:T3→T2} {T:T3→SharedT} (hA:∀w,fencedT treeTable p w N=some (S w))
  (hB:∀w,((onT (S w)).bind λt=>qba treeTable p w t.n ((S w).heap.nsMap mainGlobals "__annotations__") N t (topStub p))=some (T w))
  (hC:∀w,((S w).heap.isNs mainGlobals&&(S w).gens.size==0,staticsOk (importedModules p.main.body) (S w).heap (T w).abs.heap&&namesBound p (T w).abs.heap&&gensDone (T w).abs&&laidKept (S w).heap (T w).abs.heap,openSeen q loose (importedModules p.main.body) Xt true (T w).abs,Yf (T w).abs)=(true,true,openGood q loose,Ya w)):LeftO p q loose Xt Yf Ya N:=λw=>by
 have c:=hC w
 have c1:=congrArg Prod.fst c
 have c2:=congrArg (λx=>x.2.1) c
 have c3:=congrArg (λx=>x.2.2) c
 have f:qdN treeTable p w N (S w)=some (T w).abs:=by
  obtain ⟨t,e1,e2⟩:=K6.mp (hB w)
  unfold qdN
  rw [show ((S w).heap.isNs mainGlobals&&(S w).gens.size==0)=true from c1]
  show (onT (S w)).bind _=_
  rw [e1]
  show (qba treeTable p w t.n _ N t (topStub p)).bind _=_
  rw [e2]
  show (match staticsOk (importedModules p.main.body) (S w).heap (T w).abs.heap&&namesBound p (T w).abs.heap&&gensDone (T w).abs&&laidKept (S w).heap (T w).abs.heap with | true=>some (T w).abs | false=>none)=_
  rw [show (staticsOk (importedModules p.main.body) (S w).heap (T w).abs.heap&&namesBound p (T w).abs.heap&&gensDone (T w).abs&&laidKept (S w).heap (T w).abs.heap)=true from c2]
 show (openEnds treeTable p w N).map _=_
 unfold openEnds
 rw [qhY (hA w)]
 show (topFrom treeTable p w N (S w)).map _=_
 rw [qly f]
 exact congrArg some c3
end
noncomputable def oK (P:T4) (a:Nat):Obj:=((h1.ktop_579 P).get a).getD nf
noncomputable def pkV (es:List DictEntry):T1:=Builtin.packed (es.foldl (λacc e=>(acc.push (S6 e.key)).push (S6 e.val)) #[])
noncomputable def esL (o:Obj):List DictEntry:=match o.data with
 | .dict es _=>es.toList
 | _=>[]
noncomputable def qpF:List DictEntry→List (Option T1)→List DictEntry
 | [],_=>[]
 | e::es,[]=>e::es
 | e::es,v::vs=>(match v with | some v=>{e with val:=v} | none=>e)::qpF es vs
noncomputable def qsY:List (Option T1):=[none,none,none,some (.ref 14),some (.ref 26),none,some (.builtin "_sre.template"),some (.builtin "_sre.getcodesize"),some (.builtin "_sre.ascii_iscased"),some (.builtin "_sre.unicode_iscased"),some (.builtin "_sre.ascii_tolower"),some (.builtin "_sre.unicode_tolower")]
noncomputable def gsd (n:String) (t a:Nat) (x y:T1):Obj:={cls := .type "getset_descriptor",data := .fields #[.str n t, .ref a,x,y]}
noncomputable def o21 (P:T4):Obj:=di [en P "__module__" 227 (.str "_frozen_importlib" 217),en P "__firstlineno__" 228 (.int 562 218),en P "__doc__" 229 (.builtin "_frozen_importlib.ModuleSpec.__doc__:str#opaque"),en P "__init__" 230 (.builtin "_frozen_importlib.ModuleSpec.__init__#opaque"),en P "__repr__" 231 (.builtin "_frozen_importlib.ModuleSpec.__repr__#opaque"),en P "__eq__" 232 (.builtin "_frozen_importlib.ModuleSpec.__eq__#opaque"),en P "cached" 233 (.builtin "_frozen_importlib.ModuleSpec.cached#opaque"),en P "parent" 234 (.builtin "_frozen_importlib.ModuleSpec.parent#opaque"),en P "has_location" 235 (.builtin "_frozen_importlib.ModuleSpec.has_location#opaque"),er P "__static_attributes__" 236 23,er P "__dict__" 238 24,er P "__weakref__" 240 25,en P "__hash__" 241 .none] 13
noncomputable def l0 (P:T4):List Obj:=[boot_o_0 P,oK P 1,oK P 2,di [en P "__name__" 165 (.str "__main__" 164),en P "__doc__" 166 .none,en P "__package__" 167 .none,en P "__loader__" 168 (.builtin "__main__.__loader__#opaque"),en P "__spec__" 169 .none,er P "__annotations__" 170 6,er P "__builtins__" 171 4,en P "__file__" 173 (.str "/claim/cut.py" 172),en P "__cached__" 174 .none,er P "_sre" 275 12] 10,
 oK P 4,oK P 5,oK P 6,oK P 7,oK P 8,oK P 9,oK P 10,oK P 11,oK P 12,oK P 13,oK P 14,oK P 15,
 gsd "__dict__" 201 14 (.builtin "function.__dict__") (.builtin "function.__dict__#set"),gsd "__weakref__" 203 14 (.builtin "ExceptionGroup.__weakref__") .none,
 {cls := .none,data := .seq #[.int 13 0,pkV (esL (oK P 13)), .bool true, .bool true, .str "" 205, .int 21 0,pkV (esL (o21 P)), .bool true, .bool true, .str "" 242] 1},
 sq "list" [],di [en P "name" 208 (.str "_sre" 207),er P "loader" 209 14,en P "origin" 210 (.str "built-in" 184),en P "loader_state" 211 .none,en P "submodule_search_locations" 212 .none,er P "_uninitialized_submodules" 213 19,en P "_set_fileattr" 214 (.bool false),en P "_cached" 215 .none,en P "_initializing" 243 (.bool false)] 9,
 o21 P,{cls := .type "type",data := .cls {name:="ModuleSpec",bases:=[.type "object"],mro:=[.ref 22, .type "object"],ns:=21,qualname:="ModuleSpec"}},
 tu [.str "_cached" 219, .str "_set_fileattr" 220, .str "_uninitialized_submodules" 221, .str "loader" 222, .str "loader_state" 223, .str "name" 224, .str "origin" 225, .str "submodule_search_locations" 226],
 gsd "__dict__" 237 22 (.builtin "function.__dict__") (.builtin "function.__dict__#set"),gsd "__weakref__" 239 22 (.builtin "ExceptionGroup.__weakref__") .none,{cls := .ref 22,dict:=some 20},
 {cls := .none,data := .seq #[.int 11 0,pkV (qpF (esL (oK P 11)) qsY), .bool true, .bool false, .str "_sre" 271]}]
noncomputable def tP:T6:=Challenge.rw_xr0021_01.row.prog
noncomputable def sh0 (w:T3):T2:=⟨⟨⟨l0 w.params⟩,(start (opening tP)).1.heap.life⟩,#[],{},276,(start (opening tP)).1.os⟩
theorem qmR:∀w,fencedT treeTable tP w 3256=some (sh0 w):=λw=>by kernel_rfl
noncomputable def tb3 (c:Int) (l:List (Int×Nat)):Obj:={cls := .none,data := .fields ⟨l.flatMap λx=>[.int x.1 0, .int c 0, .ref x.2]⟩}
noncomputable def cm (n:U2) (t:Nat) (l:Int) (r x:Nat):Obj:={cls := .type "code",data := .fields #[.str n t, .str n (t+1), .str "/claim/cut.py" (t+2), .int l 0, .int 0 0, .int 0 0, .int 0 0, .int 0 0, .ref r, .bool false, .int 276 0, .ref (r+1), .none, .none, .none, .none, .int x 0, .int l 0, .str "/claim/cut.py" (x+1)]}
noncomputable def fr7 (c n:Nat) (m:U2) (t:Nat):Obj:={cls := .type "frame",slots := #[some (.ref c),some (.ref 3),some (.ref n),none,some (.str m t),none,some (.ref 0)]}
noncomputable def bmo (n:String) (v:T1):Obj:={cls := .type "builtin_function_or_method",data := .fields #[.builtin n,v]}
noncomputable def spo (a:Nat):Obj:={cls := .type "super",data := .fields #[.ref a, .ref a, .ref a]}
noncomputable def nuV:List Int→Nat→List T1
 | [],_=>[]
 | a::l,t => .int a t::nuV l (t+1)
noncomputable def erL (P:T4):List (U2×Nat×Nat)→List DictEntry
 | []=>[]
 | x::l=>er P x.1 x.2.1 x.2.2::erL P l
noncomputable def cbo (P:T4) (n:U2) (l:Int) (t u:Nat) (es:List (U2×Nat×Nat)) (k:Nat):Obj:=di (en P "__module__" t (.str "cpy313.email.header" 367)::en P "__qualname__" (t+2) (.str n (t+1))::en P "__firstlineno__" (t+4) (.int l (t+3))::erL P es) k
noncomputable def msL (P:T4):List (Nat×Obj):=[(28,tu0),(29,tb3 0 [(2,37),(7,49),(15,56),(24,65),(44,74),(67,81),(135,159),(172,242),(181,247),(190,254),(198,259),(200,266),(212,271),(231,276),(237,283),(253,288)]),
 (30,cm "<module>" 277 1 28 280),(31,fr7 30 3 "__main__" 164),(39,sq "list" (nuV [14,8,1,2,4294967295,1,1,46,0,16,46,24,9,1,4294967295,13,4,8,0,0,1,6,5,1] 294)),(40,di [] 0),(41,tu [.none]),(76,tu0),(77,bmo "type.__prepare__" (.type "type")),
 (78,cbo P "_ValueFormatter" 67 380 0 [("__init__",395,89),("_str",403,96),("__str__",410,103),("newline",418,110),("add_transition",425,117),("feed",435,124),("_maxlengths",442,131),("_ascii_split",452,138),("_append_chunk",466,145),("__static_attributes__",473,146)] 13),
 (79,tu0),(80,tb3 4 [(69,88),(77,95),(81,102),(84,109),(95,116),(98,123),(101,130),(106,137),(109,144)]),(81,cm "_ValueFormatter" 375 67 79 378),(82,fr7 81 78 "cpy313.email.header" 367),(151,spo 148),(152,bmo "object.__init_subclass__" (.ref 148)),(154,bmo "type.__prepare__" (.type "type")),
 (155,cbo P "_Accumulator" 135 488 0 [("__init__",502,169),("push",511,176),("pop_from",521,184),("pop",529,192),("__len__",536,199),("__str__",543,206),("reset",551,214),("is_onlyws",558,221),("part_count",566,229),("__static_attributes__",568,230),("__classcell__",569,156)] 14),
 (157,tu0),(158,tb3 4 [(137,168),(141,175),(144,183),(149,191),(154,198),(157,205),(160,213),(166,220),(169,228)]),(159,cm "_Accumulator" 483 135 157 486),(160,fr7 159 155 "cpy313.email.header" 367),(235,spo 232),(236,bmo "object.__init_subclass__" (.ref 232))]
noncomputable def atL:List (Nat×Obj)→Nat→Option Obj
 | [],_=>none
 | x::l,a=>match J3 x.1 a with
  | true=>some x.2
  | false=>atL l a
noncomputable def o1 (P:T4) (a:Nat):Obj:=match (h1.ktop_579 P).get a with
 | some o=>o
 | none=>match atL (msL P) a with
  | some o=>o
  | none=>(l0 P)[a]?.getD nf
noncomputable def btF (f:Nat→Obj) (n:Nat):Nat→Nat→Nat→BT
 | 0,_,_ => .nil
 | k+1,a,b=>match Nat.blt b n with
  | true => .node (f b) (btF f n k (2*a) (a+b)) (btF f n k (2*a) (2*a+b))
  | false => .nil
noncomputable def sT1 (w:T3):SharedT:=⟨btF (o1 w.params) 290 10 1 0,290,(start (opening tP)).1.heap.life,#[],{},654,(start (opening tP)).1.os⟩
theorem qmQ:∀w,((onT (sh0 w)).bind λt=>qba treeTable tP w t.n ((sh0 w).heap.nsMap mainGlobals "__annotations__") 3256 t (topStub tP))=some (sT1 w):=λw=>by kernel_rfl
end
noncomputable def qdO:KT→Nat→Nat→Frag
 | .nil,_,_=>[]
 | .node v l r,s,b=>(match v with | some o=>[(b,o)] | none=>[])++(qdO l (2*s) (s+b)++qdO r (2*s) (2*s+b))
theorem qcW {h:Heap}:∀{a b:Frag},AllIn h (a++b)→AllIn h a∧AllIn h b
 | [],_,H=>⟨trivial,H⟩
 | _::_,_,H=>have z:=qcW H.2;⟨⟨H.1,z.1⟩,z.2⟩
theorem uv {h:Heap}:∀{t:KT} {s b:Nat},AllIn h (qdO t s b)→KT.Holds h s b t
 | .nil,_,_,_=>trivial
 | .node v l r,s,b,H=>by
  have z:=qcW H
  have y:=qcW z.2
  refine ⟨λo e => ?_,uv y.1,uv y.2⟩
  rw [e] at z
  exact z.1.1
noncomputable def qdM (P:T4):Frag:=qdO (h1.ktop_579 P) 1 0
noncomputable def qhR:List Nat:=[0,1,3,7,15,63,127,255,191,95,287,223,47,143,271,207,111,175,239,71,135,263,199,103,167,231,55,87,279,215,119,183,247,11,35,67,131,259,195,99,163,227,51,83,147,275,211,115,179,243,43,75,139,267,203,107,171,59,91,283,219,123,187,251,5,9,33,65,129,257,193,97,161,289,225,49,145,273,209,113,177,241,73,137,265,201,105,169,233,57,89,153,281,217,121,185,249,13,37,69,133,261,197,101,165,229,53,85,149,277,213,117,181,245,45,141,269,205,109,173,237,61,93,285,221,125,189,253,2,4,8,32,64,128,256,192,96,288,224,48,144,272,208,112,176,240,72,136,264,200,104,168,232,56,88,280,216,120,184,248,12,36,68,132,260,196,100,164,228,52,84,148,276,212,116,180,244,44,140,268,204,108,172,60,92,156,284,220,124,188,252,6,10,34,66,130,258,194,98,162,226,50,146,274,210,114,178,242,42,74,138,266,202,106,170,234,58,90,282,218,122,186,250,14,38,70,134,262,198,102,166,230,54,86,150,278,214,118,182,246,46,142,270,206,110,174,238,62,94,286,222,126,190,254]
theorem qlg (P:T4):qhR=(qdM P).map (·.1):=by kernel_rfl
noncomputable def view:T6:={Challenge.rw_xr0021_01.row.prog with main:={Challenge.rw_xr0021_01.row.prog.main with body:=[0,1,3,4,5,10,11,12,13,15,17,18,19,20,21,22,23,24].map fT}}
noncomputable def qjI:List U2:=[Str.ofString "IPV4_RE",Str.ofString "bisect_right",Str.ofString "bisect_left",Str.ofString "_Accumulator"]
theorem qkB:LeftO Challenge.rw_xr0021_01.row.prog view qjI (λs=>xlAt view [] s&&recOk Challenge.rw_xr0021_01.row.records s) (obsZ qhR) (valZ qdM 290 654) 3256:=qnn qmR qmQ λw=>by kernel_rfl
section
open Sem (wp)
abbrev Key:=List (Nat×Obj)
structure FV where
 prog:T6
 par0:T4
 par1:T4
 kt:Nat→Option Obj
 own:List Nat
 n0:Nat
 gown:List Nat
 g0:Nat
 fr:Option (List Env)
noncomputable def qp9 (l:List Nat):Nat→Nat := @List.rec Nat (λ_=>Nat→Nat) (λ_=>0) (λa _ ih i => @Nat.rec (λ_=>Nat) a (λj _=>ih j) i) l
noncomputable def rmL (l:List Nat):Nat→List Nat := @List.rec Nat (λ_=>Nat→List Nat) (λ_=>[]) (λa t ih i => @Nat.rec (λ_=>List Nat) t (λj _=>List.cons a (ih j)) i) l
noncomputable def qs1 (l:List Nat):List Nat→List Nat := @List.rec Nat (λ_=>List Nat→List Nat) (λr=>r) (λa _ ih r=>ih (List.cons a r)) l
noncomputable def dpL (n:Nat):List Nat→List Nat := @Nat.rec (λ_=>List Nat→List Nat) (λl=>l) (λ_ ih l => @List.rec Nat (λ_=>List Nat) [] (λ_ t _=>ih t) l) n
noncomputable def tkL (n:Nat):List Nat→List Nat→List Nat := @Nat.rec (λ_=>List Nat→List Nat→List Nat) (λ_ s=>s) (λ_ ih l s => @List.rec Nat (λ_=>List Nat) s (λa t _=>List.cons a (ih t s)) l) n
noncomputable def cpL (k d:Nat) (s:List Nat):List Nat := @Bool.rec (λ_=>List Nat) (@Nat.rec (λ_=>List Nat→List Nat) (λs=>s) (λ_ ih s=>ih (List.cons (qp9 s d) s)) k s) (tkL k (dpL (Nat.sub (G6 d) k) s) s) (M6 k (G6 d))
noncomputable def qsZ (k:Nat) (s:List Nat):List Nat := @Nat.rec (λ_=>List Nat) s (λ_ r=>List.cons 0 r) k
noncomputable def exL (n:Nat):List Nat→List Nat := @Nat.rec (λ_=>Nat→List Nat→List Nat) (λ_ s=>s) (λ_ ih n s => @Bool.rec (λ_=>List Nat)
 (@Bool.rec (λ_=>List Nat)
  (@Bool.rec (λ_=>List Nat)
   (@Bool.rec (λ_=>List Nat) (ih (N7 n 256) (qsZ (Nat.add (N8 (N7 n 16) 16) 3) s)) (ih (N7 n 1048576) (cpL (N8 (N7 n 4096) 256) (Nat.pred (N8 (N7 n 16) 256)) s)) (J3 (N8 n 16) 14))
   (ih (N7 n 4096) (List.cons (Nat.add 16 (N8 (N7 n 16) 256)) s)) (J3 (N8 n 16) 13))
  (ih (N7 n 16) (List.cons (N8 n 16) s)) (M6 (N8 n 16) 12)) s (J3 n 1)) 100000 n
noncomputable def frc (v:Nat) (k:Nat→List Nat):List Nat := @Nat.rec (λ_=>List Nat) (k 0) (λn _=>k (G6 n)) v
noncomputable def mtL (l:List Nat):List Nat→List Nat := @List.rec Nat (λ_=>List Nat→List Nat) (λ_=>[]) (λt _ ih s => @Bool.rec (λ_=>List Nat) (frc (Nat.sub t 16) λv=>List.cons v (ih (List.cons v s))) (frc (qp9 s t) λv=>List.cons v (ih (List.cons v (rmL s t)))) (M6 t 12)) l
noncomputable def hx (n:Nat):List Nat:=mtL (qs1 (exL n []) []) []
inductive vH where
 | done (r:Result)
 | go (c:Code)
structure Ctr where
 code:List Nat→Code
 ok:List Nat→List (Nat×Nat)
 pre:List Nat→List Obj
 res:List Nat→(Nat→Nat)→vH
 post:List Nat→(Nat→Nat)→List Obj
 news:List Nat→(Nat→Nat)→List Obj
 frz:List Key
 kpost:List Nat→(Nat→Nat)→List Key:=λ_ _=>[]
 fside:Option (List Key→Prop):=none
 frs:Option (List Nat→List Env):=none
structure CH where
 n:Nat
 c:Option ((Code→List Obj→Ctr)×List Nat)
 z:List Nat
noncomputable abbrev cX (n:Nat) (f:Code→List Obj→Ctr) (js:List Nat):CH:=⟨n,some (f,js),[]⟩
noncomputable abbrev cO (n:Nat) (f:List Obj→Ctr) (js:List Nat):CH:=⟨n,some (λ_ os=>f os,js),[]⟩
noncomputable abbrev cC (n:Nat) (f:Code→Ctr) (js:List Nat):CH:=⟨n,some (λc _=>f c,js),[]⟩
noncomputable abbrev oF:Nat×T1:=(0, .bool false)
noncomputable abbrev oT:Nat×T1:=(0, .bool true)
structure FS where
 T:BT
 cnt:Nat
 ad:List Nat
 N:Nat
 t0:Nat
 i:Nat
 gl:List (Nat×GenState)
 gN:Nat
 gc:Nat
 hs:List Nat
 ih:List (Nat×T1)
 cs:List CH
 eqs:List (Nat×Nat)
 vqs:List (T1×T1)
 oqs:List (List Obj×List Obj)
 cqs:List (Code×Code)
 aqs:List (Sem Fin×Sem Fin)
 kqs:List (List Key×List Key)
 fz:List Key
 sqs:List Prop
inductive FK where
 | base
 | ret (c:Code) (hd:Option T1) (k:Result→Sem Fin) (κ:FK)
 | seg (c:Code) (fs:List Frame) (hd:Option T1) (k:Result→Sem Fin) (κ:FK)
 | gen (j g:Nat) (c:Code) (k:GenResult→Sem Fin) (κ:FK)
namespace FK
noncomputable def len:FK→Nat
 | .base=>0
 | .ret _ _ _ κ=>κ.len+1
 | .seg _ fs _ _ κ=>κ.len+fs.length+1
 | .gen _ _ _ _ κ=>κ.len+1
end FK
noncomputable def hdK:FK→Option T1
 | .base=>none
 | .ret _ hd _ κ=>hd.or (hdK κ)
 | .seg _ fs hd _ κ=>hd.or (marksOver fs (hdK κ,hdK κ)).1
 | .gen _ _ _ _ κ=>hdK κ
noncomputable def hdC (md:Option (List Frame)) (κ:FK):Option T1:=match md with
 | none=>hdK κ
 | some fs=>(marksOver fs (hdK κ,hdK κ)).1
noncomputable def isNone {α:Type}:Option α→Bool
 | none=>true
 | some _=>false
inductive FO where
 | done (r:Result) (σ:FS)
 | call (c:Code) (κ:FK) (σ:FS)
 | ctr (f:(Nat→Nat)→FO)
 | stk (f:Pos→List (Code×Pos)→FO)
 | pos (f:Pos→FO)
 | bad (n:Nat) (t:Sem Fin)
noncomputable def adF:List Nat→Nat→Nat→Nat
 | [],N,j=>N+j
 | a::l,N,j=>match j with
  | 0=>a
  | j+1=>adF l N j
noncomputable def lGet {α:Type}:List α→Nat→Option α
 | [],_=>none
 | a::l,n=>match n with
  | 0=>some a
  | n+1=>lGet l n
noncomputable def lSet (l:List (Nat×GenState)) (j:Nat) (x:GenState):List (Nat×GenState):=match l with
 | []=>[]
 | a::l=>match j with
  | 0=>(a.1,x)::l
  | j+1=>a::lSet l j x
noncomputable def FS.sHs (σ:FS) (h:List Nat):FS:=match σ with
 | ⟨T,cnt,ad,N,t0,i,gl,gN,gc,hs,ih,cs,eqs,vqs,oqs,cqs,aqs,kqs,fz,sqs⟩=>⟨T,cnt,ad,N,t0,i,gl,gN,gc,h,ih,cs,eqs,vqs,oqs,cqs,aqs,kqs,fz,sqs⟩
noncomputable def FS.sLoad (σ:FS) (h:List Nat) (p:Nat×Nat):FS:=match σ with
 | ⟨T,cnt,ad,N,t0,i,gl,gN,gc,hs,ih,cs,eqs,vqs,oqs,cqs,aqs,kqs,fz,sqs⟩=>⟨T,cnt,ad,N,t0,i,gl,gN,gc,h,ih,cs,p::eqs,vqs,oqs,cqs,aqs,kqs,fz,sqs⟩
noncomputable def FS.sUpd (σ:FS) (h:List Nat) (p:Nat×Nat) (j:Nat) (f:Obj→Obj):FS:=match σ with
 | ⟨T,cnt,ad,N,t0,i,gl,gN,gc,hs,ih,cs,eqs,vqs,oqs,cqs,aqs,kqs,fz,sqs⟩=>⟨T.set j f,cnt,ad,N,t0,i,gl,gN,gc,h,ih,cs,p::eqs,vqs,oqs,cqs,aqs,kqs,fz,sqs⟩
noncomputable def FS.sAlloc (σ:FS) (o:Obj):FS:=match σ with
 | ⟨T,cnt,ad,N,t0,i,gl,gN,gc,hs,ih,cs,eqs,vqs,oqs,cqs,aqs,kqs,fz,sqs⟩=>⟨T.ins cnt o,cnt+1,ad,N,t0,i,gl,gN,gc,hs,ih,cs,eqs,vqs,oqs,cqs,aqs,kqs,fz,sqs⟩
noncomputable def FS.sFresh (σ:FS):FS:=match σ with
 | ⟨T,cnt,ad,N,t0,i,gl,gN,gc,hs,ih,cs,eqs,vqs,oqs,cqs,aqs,kqs,fz,sqs⟩=>⟨T,cnt,ad,N,t0,i+1,gl,gN,gc,hs,ih,cs,eqs,vqs,oqs,cqs,aqs,kqs,fz,sqs⟩
noncomputable def FS.sNewGen (σ:FS) (c:Code):FS:=match σ with
 | ⟨T,cnt,ad,N,t0,i,gl,gN,gc,hs,ih,cs,eqs,vqs,oqs,cqs,aqs,kqs,fz,sqs⟩=>⟨T,cnt,ad,N,t0,i,gl++[(gN+gc, .fresh c)],gN,gc+1,hs,ih,cs,eqs,vqs,oqs,cqs,aqs,kqs,fz,sqs⟩
noncomputable def FS.sGen (σ:FS) (h:List Nat) (p:Nat×Nat) (j:Nat) (x:GenState):FS:=match σ with
 | ⟨T,cnt,ad,N,t0,i,gl,gN,gc,hs,ih,cs,eqs,vqs,oqs,cqs,aqs,kqs,fz,sqs⟩=>⟨T,cnt,ad,N,t0,i,lSet gl j x,gN,gc,h,ih,cs,p::eqs,vqs,oqs,cqs,aqs,kqs,fz,sqs⟩
noncomputable def FS.sWake (σ:FS) (p:Nat×Nat) (j:Nat) (x:GenState):FS:=match σ with
 | ⟨T,cnt,ad,N,t0,i,gl,gN,gc,hs,ih,cs,eqs,vqs,oqs,cqs,aqs,kqs,fz,sqs⟩=>⟨T,cnt,ad,N,t0,i,lSet gl j x,gN,gc,hs,ih,cs,p::eqs,vqs,oqs,cqs,aqs,kqs,fz,sqs⟩
noncomputable def FS.sAsk (σ:FS) (p:Sem Fin×Sem Fin):FS:=match σ with
 | ⟨T,cnt,ad,N,t0,i,gl,gN,gc,hs,ih,cs,eqs,vqs,oqs,cqs,aqs,kqs,fz,sqs⟩=>⟨T,cnt,ad,N,t0,i,gl,gN,gc,hs,ih,cs,eqs,vqs,oqs,cqs,p::aqs,kqs,fz,sqs⟩
noncomputable def FS.sIh (σ:FS) (h:List (Nat×T1)):FS:=match σ with
 | ⟨T,cnt,ad,N,t0,i,gl,gN,gc,hs,ih,cs,eqs,vqs,oqs,cqs,aqs,kqs,fz,sqs⟩=>⟨T,cnt,ad,N,t0,i,gl,gN,gc,hs,h,cs,eqs,vqs,oqs,cqs,aqs,kqs,fz,sqs⟩
noncomputable def FS.sOrc (σ:FS) (h:List (Nat×T1)) (p:T1×T1):FS:=match σ with
 | ⟨T,cnt,ad,N,t0,i,gl,gN,gc,hs,ih,cs,eqs,vqs,oqs,cqs,aqs,kqs,fz,sqs⟩=>⟨T,cnt,ad,N,t0,i,gl,gN,gc,hs,h,cs,eqs,p::vqs,oqs,cqs,aqs,kqs,fz,sqs⟩
noncomputable def FS.sCs (σ:FS) (h:List CH):FS:=match σ with
 | ⟨T,cnt,ad,N,t0,i,gl,gN,gc,hs,ih,cs,eqs,vqs,oqs,cqs,aqs,kqs,fz,sqs⟩=>⟨T,cnt,ad,N,t0,i,gl,gN,gc,hs,ih,h,eqs,vqs,oqs,cqs,aqs,kqs,fz,sqs⟩
abbrev FI:=Code→Option (List Frame)→FK→Sem Fin→FS→FO
noncomputable def qa0 (ih:FI) (r:Result) (κ:FK) (σ:FS):FO:=match κ with
 | .base => .done r σ
 | .ret c _ k κ=>ih c none κ (k r) σ
 | .seg c fs _ k κ=>ih c (some fs) κ (k r) σ
 | .gen .. => .bad 21 (.unsupported "")
noncomputable def qcw:Code→Bool
 | .builtin .. => false
 | _=>true
noncomputable def qdH:List Frame→Bool
 | []=>true
 | f::fs=>match qcw f.where_.1 with
  | true=>qdH fs
  | false=>false
noncomputable def qgE (ih:FI) (e:End) (κ:FK) (σ:FS):FO:=match κ with
 | .gen j g c k κ=>match lGet σ.gl j with
  | some z=>ih c none κ (k e.result) (σ.sWake (g,z.1) j e.genState)
  | none => .bad 16 (.unsupported "")
 | _ => .bad 20 (.unsupported "")
noncomputable def qkQ (ih:FI) (r:Result) (md:Option (List Frame)) (κ:FK) (σ:FS):FO:=match md with
 | none=>qa0 ih r κ σ
 | some fs=>match fs with
  | []=>qgE ih (.ret r) κ σ
  | f::fs=>match f with
   | .ret k _ _ _ c₁ _ _=>ih c₁ (some fs) κ (k r) σ
   | .gen .. => .bad 23 (.unsupported "")
structure FP where
 V:FV
 den:Code→Sem Fin
 denS:Code→Sem Fin
 denG:Code→Sem Fin
 qt:Code→Bool
noncomputable def getAll (T:BT):List Nat→Option (List Obj)
 | []=>some []
 | j::js=>match T.get j with
  | some o=>match getAll T js with
   | some os=>some (o::os)
   | none=>none
  | none=>none
noncomputable def setAll (T:BT) (js:List Nat) (os:List Obj):BT:=match js with
 | []=>T
 | j::js=>match os with
  | []=>T
  | o::os=>setAll (T.set j λ_=>o) js os
noncomputable def insAll (T:BT) (n:Nat):List Obj→Option BT
 | []=>some T
 | o::os=>match (T.ins n o).get n with
  | some _=>insAll (T.ins n o) (n+1) os
  | none=>none
noncomputable def adAll (ad:List Nat) (N:Nat):Nat→List Nat→List Nat
 | 0,l=>l
 | n+1,l=>adAll ad N n (adF ad N n::l)
noncomputable def nuFrom (ν:Nat→Nat):Nat→List Obj→List Nat
 | _,[]=>[]
 | n,_::os=>ν n::nuFrom ν (n+1) os
noncomputable def vD {α:Type}:List α→Nat
 | []=>0
 | _::l=>G6 (vD l)
noncomputable def qhS (n:Nat):List Nat→Bool
 | []=>false
 | m::l=>match J3 m n with
  | true=>true
  | false=>qhS n l
noncomputable def qdS:List Nat→Bool
 | []=>true
 | n::l=>match qhS n l with
  | true=>false
  | false=>qdS l
noncomputable def qeV (C:Ctr) (ks:List Key) (l:List (List Key×List Key)):List (List Key×List Key):=match C.fside with
 | none=>(ks,C.frz)::l
 | some _=>l
noncomputable def qgL (C:Ctr) (ks:List Key) (l:List Prop):List Prop:=match C.fside with
 | none=>l
 | some P=>P ks::l
noncomputable def frq (C:Ctr) (fo:Option (List Env)) (ads:List Nat) (l:List Prop):List Prop:=match C.frs with
 | none=>l
 | some f=>(fo=some (f ads))::l
noncomputable def framesF (fr:Option (List Env)):FK→Option (List Env)
 | .base=>fr
 | .ret c _ _ κ=>pushEnvs c.envs (framesF fr κ)
 | .seg c fs _ _ κ=>pushEnvs c.envs (pushEnvs (envsOf (fs.map Frame.where_)) (framesF fr κ))
 | .gen _ _ c _ κ=>pushEnvs c.envs (framesF fr κ)
noncomputable def FS.sCtr (σ:FS) (C:Ctr) (ks:List Key) (fo:Option (List Env)) (c:Code) (cs':List CH) (ads:List Nat) (os:List Obj) (ns:List Obj) (T':BT) (ν:Nat→Nat):FS:=match σ with
 | ⟨T,cnt,ad,N,t0,i,gl,gN,gc,hs,ih,cs,eqs,vqs,oqs,cqs,aqs,kqs,fz,sqs⟩=>⟨T',cnt+vD ns,adAll ad N cnt (nuFrom ν 3 ns),ν 0,ν 1,0,gl,ν 2,0,hs,ih,cs',C.ok ads++eqs,vqs,(os,C.pre ads)::oqs,(c,C.code ads)::cqs,aqs,qeV C ks kqs,fz++C.kpost ads ν,frq C fo ads (qgL C ks sqs)⟩
noncomputable def qb7 (fz:List Key):List Nat→Option (List Key)
 | []=>some []
 | i::is=>match lGet fz i with
  | some k=>match qb7 fz is with
   | some ks=>some (k::ks)
   | none=>none
  | none=>none
noncomputable def qfB (fr:Option (List Env)) (z:List Nat) (ih:FI) (C':Code→List Obj→Ctr) (js:List Nat) (cs':List CH) (c:Code) (κ:FK) (σ:FS) (t:Sem Fin):FO:=match getAll σ.T js with
 | none => .bad 31 t
 | some os=>match qdS js with
  | false => .bad 32 t
  | true=>match qb7 σ.fz z with
   | none => .bad 35 t
   | some ks => .ctr λν=>match insAll (setAll σ.T js ((C' c os).post (js.map (adF σ.ad σ.N)) ν)) σ.cnt ((C' c os).news (js.map (adF σ.ad σ.N)) ν) with
   | some T'=>match (C' c os).res (js.map (adF σ.ad σ.N)) ν with
    | .done r=>qa0 ih r κ (σ.sCtr (C' c os) ks (framesF fr κ) c cs' (js.map (adF σ.ad σ.N)) os ((C' c os).news (js.map (adF σ.ad σ.N)) ν) T' ν)
    | .go c'=>match qcw c' with
     | true=>ih c' none κ (.pure (.again c')) (σ.sCtr (C' c os) ks (framesF fr κ) c cs' (js.map (adF σ.ad σ.N)) os ((C' c os).news (js.map (adF σ.ad σ.N)) ν) T' ν)
     | false => .bad 34 t
   | none => .bad 33 t
noncomputable def qhP (t:Sem Fin):Bool:=match t with
 | .unsupported _=>true
 | _=>false
noncomputable def goR (F:FP) (ih:FI) (c:Code) (κ:FK) (σ:FS):FO:=match qhP (F.den c) with
 | true => .bad 50 (F.den c)
 | false=>ih c none κ (F.den c) σ
noncomputable def goF (F:FP) (ih:FI) (c:Code) (κ:FK) (σ:FS):FO:=match Nat.blt κ.len 24 with
 | true=>match σ.cs with
  | []=>goR F ih c κ σ
  | h::t=>match h.n with
   | 0=>match h.c with
    | none => .call c κ (σ.sCs t)
    | some x=>match isNone (hdK κ) with
     | true=>qfB F.V.fr h.z ih x.1 x.2 t c κ σ (F.den c)
     | false => .bad 4 (F.den c)
   | n+1=>goR F ih c κ (σ.sCs (⟨n,h.c,h.z⟩::t))
 | false => .bad 3 (F.den c)
noncomputable def vr:String:="posix.ScandirIterator.__iter__"
noncomputable def qdG (c:Code):Option T1:=match c with
 | .builtin id args=>match args.kw with
  | []=>none
  | _=>match args.pos with
   | [x]=>match decide (id=vr) with
    | true=>some x
    | false=>none
   | _=>none
 | _=>none
noncomputable def qms (x v:T1):T1:=match v with
 | .int j u=>match x with
  | .int _ t => .int j t
  | _ => .int j u
 | v=>v
noncomputable def qbn (σ:FS) (x:T1):T1×FS:=match σ.ih with
 | []=>(x,σ)
 | h::t=>match h.1 with
  | 0=>(qms x h.2,σ.sOrc t (x,qms x h.2))
  | n+1=>(x,σ.sIh ((n,h.2)::t))
noncomputable def qb9:Code→Bool
 | .call .. => false
 | .builtin .. => false
 | .func .. => false
 | .expr .. => false
 | .body .. => false
 | _=>true
noncomputable def qhE (F:FP) (ih:FI) (c:Code) (md:Option (List Frame)) (κ:FK) (σ:FS) (a:Addr) (k:Obj→Sem Fin) (t:Sem Fin):FO:=match σ.hs with
 | [] => .bad 10 t
 | h::hs=>match h with
  | 0=>match F.V.kt a with
   | some o=>ih c md κ (k o) (σ.sHs hs)
   | none => .bad 11 t
  | j+1=>match σ.T.get j with
   | some o=>ih c md κ (k o) (σ.sLoad hs (a,adF σ.ad σ.N j))
   | none => .bad 12 t
noncomputable def qpi (ih:FI) (c:Code) (md:Option (List Frame)) (κ:FK) (σ:FS) (a:Addr) (f:Obj→Obj) (k:Unit→Sem Fin) (t:Sem Fin):FO:=match σ.hs with
 | [] => .bad 10 t
 | h::hs=>match h with
  | 0 => .bad 13 t
  | j+1=>match σ.T.get j with
   | some o=>match (f o).isFreed with
    | true => .bad 14 t
    | false=>ih c md κ (k ()) (σ.sUpd hs (a,adF σ.ad σ.N j) j f)
   | none => .bad 12 t
noncomputable def qkm (F:FP) (ih:FI) (md:Option (List Frame)) (κ:FK) (c':Code) (t:Sem Fin) (σ:FS):FO:=match F.qt c' with
 | true=>match md with
  | none=>goF F ih c' κ σ
  | some fs=>match qb9 c' with
   | true=>ih c' (some fs) κ (F.denS c') σ
   | false => .bad 6 t
 | false => .bad 5 t
noncomputable def qkk (ih:FI) (c:Code) (md:Option (List Frame)) (κ:FK) (σ:FS) (o:Obj) (k:Addr→Sem Fin) (t:Sem Fin):FO:=match o.isFreed with
 | true => .bad 14 t
 | false=>match (σ.T.ins σ.cnt o).get σ.cnt with
  | some _=>ih c md κ (k (adF σ.ad σ.N σ.cnt)) (σ.sAlloc o)
  | none => .bad 15 t
noncomputable def qih (F:FP) (ih:FI) (c:Code) (md:Option (List Frame)) (κ:FK) (σ:FS) (c':Code) (hd:Option T1) (g:Bool) (l:List T1) (k:Result→Sem Fin):FO:=match md with
 | none=>match qdG c' with
  | some x=>ih c none κ (k (.ok (.ret (qbn σ x).1))) (qbn σ x).2
  | none=>goF F ih c' (.ret c hd k κ) σ
 | some fs=>match qb9 c' with
  | true => .pos λp=>ih c' (some (.ret k hd g l c p []::fs)) κ (F.denS c') σ
  | false=>goF F ih c' (.seg c fs hd k κ) σ
noncomputable def qqU (ih:FI) (c:Code) (md:Option (List Frame)) (κ:FK) (σ:FS) (g:Nat) (k:GenStatus×Option (List (Code×Pos))→Sem Fin) (t:Sem Fin):FO:=match σ.hs with
 | [] => .bad 10 t
 | j::hs=>match lGet σ.gl j with
  | some x=>ih c md κ (k x.2.seen) (σ.sLoad hs (g,x.1))
  | none => .bad 16 t
noncomputable def qrM (F:FP) (ih:FI) (c:Code) (κ:FK) (σ:FS) (g:Nat) (r:Resume) (k:GenResult→Sem Fin) (t:Sem Fin) (j:Nat) (hs:List Nat) (x:Nat×GenState):FO:=match x.2 with
 | .fresh c₀=>match r with
  | .send v=>match v with
   | .none=>match qcw c₀ with
    | true=>ih c₀ (some []) (.gen j g c k κ) (F.denG c₀) (σ.sGen hs (g,x.1) j .running)
    | false => .bad 28 t
   | _ => .bad 18 t
  | .throw _ => .bad 18 t
 | .suspended k₀ _ c₀ _ fs₀ _=>match qcw c₀ with
  | true=>match qdH fs₀ with
   | true=>ih c₀ (some fs₀) (.gen j g c k κ) (k₀ r) (σ.sGen hs (g,x.1) j .running)
   | false => .bad 28 t
  | false => .bad 28 t
 | .running => .bad 19 t
 | .finished => .bad 19 t
noncomputable def qpY (F:FP) (ih:FI) (c:Code) (κ:FK) (σ:FS) (g:Nat) (r:Resume) (k:GenResult→Sem Fin) (t:Sem Fin):FO:=match σ.hs with
 | [] => .bad 10 t
 | j::hs=>match lGet σ.gl j with
  | some x=>qrM F ih c κ σ g r k t j hs x
  | none => .bad 16 t
noncomputable def qph (ih:FI) (c:Code) (fs:List Frame) (κ:FK) (σ:FS) (v:T1) (l:List T1) (k:Resume→Sem Fin) (t:Sem Fin):FO:=match (splitAtGen fs).isNone with
 | true=>match fs.any Frame.guarded with
  | true => .bad 27 t
  | false => .pos λp=>qgE ih (.susp v false l k c p fs) κ σ
 | false => .bad 26 t
noncomputable def qmf (F:FP) (ih:FI) (c:Code) (md:Option (List Frame)) (κ:FK) (t:Sem Fin) (σ:FS):FO:=match t with
 | .pure fin=>match fin with
  | .done f=>qkQ ih (.ok f) md κ σ
  | .again c'=>qkm F ih md κ c' t σ
 | .raise e=>qkQ ih (.error e) md κ σ
 | .rule _ k=>ih c md κ (k ()) σ
 | .at _ k=>ih c md κ (k ()) σ
 | .point _ k=>ih c md κ (k ()) σ
 | .ask k=>ih c md κ (k ⟨F.V.prog,F.V.par1⟩) (σ.sAsk (k ⟨F.V.prog,F.V.par0⟩,k ⟨F.V.prog,F.V.par1⟩))
 | .fresh k=>ih c md κ (k (σ.t0+σ.i)) σ.sFresh
 | .load a _ k=>qhE F ih c md κ σ a k t
 | .loadIfAlive a k=>qhE F ih c md κ σ a (λo=>k (some o)) t
 | .update a _ f k=>qpi ih c md κ σ a f k t
 | .alloc o k=>qkk ih c md κ σ o k t
 | .handled own k=>match own with
  | false=>ih c md κ (k (hdC md κ)) σ
  | true => .bad 7 t
 | .stack k => .stk λp b=>ih c md κ (k ((c,p)::b)) σ
 | .call c' hd g l k=>match okMark hd with
  | true=>qih F ih c md κ σ c' hd g l k
  | false => .bad 8 t
 | .newGen c' k=>ih c md κ (k (σ.gN+σ.gc)) (σ.sNewGen c')
 | .genState g k=>qqU ih c md κ σ g k t
 | .resume g r _ k=>match md with
  | some _ => .bad 17 t
  | none=>qpY F ih c κ σ g r k t
 | .yield v gd l k=>match md with
  | none => .bad 24 t
  | some fs=>match gd with
   | true => .bad 25 t
   | false=>qph ih c fs κ σ v l k t
 | t => .bad 30 t
noncomputable def runF (F:FP):Nat→FI
 | 0=>λ_ _ _ t _ => .bad 40 t
 | n+1=>λc md κ t σ=>match σ with
  | ⟨T,cnt,ad,N,t0,i,gl,gN,gc,hs,ih,cs,eqs,vqs,oqs,cqs,aqs,kqs,fz,sqs⟩=>qmf F (runF F n) c md κ t ⟨T,cnt,ad,N,t0,i,gl,gN,gc,hs,ih,cs,eqs,vqs,oqs,cqs,aqs,kqs,fz,sqs⟩
end
section
open Sem (wp)
noncomputable def W (prog:T6) (w:T3) (A:Around) (c:Code) {α:Type}:Sem α→(α→T2→Prop)→(T1→T2→Prop)→T2→Prop
 | .pure a,Q,_,s=>Q a s
 | .raise e,_,E,s=>E e s
 | .unsupported _,_,_,_=>False
 | .finish _,_,_,_=>False
 | .rule _ k,Q,E,s=>W prog w A c (k ()) Q E s
 | .at _ k,Q,E,s=>W prog w A c (k ()) Q E s
 | .load a _ k,Q,E,s=>∃o,s.heap.get? a=some o∧W prog w A c (k o) Q E s
 | .update a _ f k,Q,E,s=>(∃o,s.heap.get? a=some o)∧W prog w A c (k ()) Q E {s with heap:=s.heap.update a f}
 | .loadIfAlive a k,Q,E,s=>∃o,s.heap.get? a=some o∧W prog w A c (k (some o)) Q E s
 | .point _ k,Q,E,s=>W prog w A c (k ()) Q E s
 | .register _ _,_,_,_=>False
 | .alloc o k,Q,E,s=>W prog w A c (k s.heap.objs.size) Q E {s with heap:=s.heap.push o}
 | .fresh k,Q,E,s=>W prog w A c (k s.toks) Q E {s with toks:=s.toks+1}
 | .ask k,Q,E,s=>W prog w A c (k ⟨prog,w.params⟩) Q E s
 | .choose _ _ _,_,_,_=>False
 | .os _ _ _,_,_,_=>False
 | .call c' hd _ _ k,Q,E,s=>hd≠some byPass∧codeAny (model prog w) ((A.under c).mark hd) c' (λr s'=>W prog w A c (k r) Q E s') s
 | .handled own k,Q,E,s=>own=false∧W prog w A c (k A.handled) Q E s
 | .genState g k,Q,E,s=>∃st,s.gens[g]? = some st∧W prog w A c (k st.seen) Q E s
 | .newGen c' k,Q,E,s=>W prog w A c (k s.gens.size) Q E {s with gens:=s.gens.push (.fresh c')}
 | .resume g r _ k,Q,E,s=>(∃c₀,r = .send .none∧s.gens[g]? = some (.fresh c₀)∧SegX (model prog w) (A.under c) c₀ (denote table c₀) [] (s.setGen g .running) (λe s'=>W prog w A c (k e.result) Q E (s'.setGen g e.genState)))∨
   (∃k₀ l₀ c₀ p₀ fs₀ cl,s.gens[g]? = some (.suspended k₀ l₀ c₀ p₀ fs₀ cl)∧SegX (model prog w) (A.under c) c₀ (k₀ r) fs₀ (s.setGen g .running) (λe s'=>W prog w A c (k e.result) Q E (s'.setGen g e.genState)))
 | .yield _ _ _ _,_,_,_=>False
 | .stack k,Q,E,s=>∀p b,W prog w A c (k ((c,p)::b)) Q E s
 | .fork _ _,_,_,_=>False
 | .thread _,_,_,_=>False
 | .await _ _ _ _ _,_,_,_=>False
section
variable {α β:Type} {prog:T6} {w:T3} {A:Around} {c:Code}
theorem qdT:∀(t:Sem α) {Q:α→T2→Prop} {E:T1→T2→Prop} {s:T2},W prog w A c t Q E s→wpOwn (model prog w) A c t Q E s:=by
 intro t
 induction t with
 | pure a=>exact λh=>y_pure _ _ _ _ _ _ _ _ _ h
 | raise e=>exact λh=>y_raise _ _ _ _ _ _ _ _ _ h
 | unsupported=>exact λh=>h.elim
 | finish=>exact λh=>h.elim
 | rule tag k ih=>exact λh=>wpOwn_bind (m:=rule tag) (f:=k) (wpOwn_of_wpAny (wpAny_rule (ih _ h)))
 | «at» q k ih=>exact λh=>wpOwn_bind (m:=T8 q) (f:=k) (wpOwn_of_wpAny (wpAny_standAt (ih _ h)))
 | load a q k ih=>exact λ⟨o,ho,h⟩=>wpOwn_bind (m:=loadPart a q) (f:=k) (wpOwn_of_wpAny (wpAny_loadPart ho (ih _ h)))
 | update a q f k ih=>exact λ⟨⟨o,ho⟩,h⟩=>wpOwn_bind (m:=updatePart a q f) (f:=k) (wpOwn_of_wpAny (wpAny_updatePart ho (ih _ h)))
 | loadIfAlive a k ih =>
  intro Q E s h
  obtain ⟨o,ho,h⟩:=h
  obtain ⟨h',g,d,tk,os⟩:=s
  exact y_alive _ _ _ _ _ _ _ _ _ _ _ _ _ _ _ ho (ih _ h)
 | point l k ih=>exact λh=>y_skim _ _ _ _ _ _ _ _ _ 1 (ih _ h)
 | register=>exact λh=>h.elim
 | alloc o k ih=>exact λh=>wpOwn_bind (m:=alloc o) (f:=k) (wpOwn_of_wpAny (wpAny_alloc (ih _ h)))
 | fresh k ih=>exact λh=>wpOwn_bind (m:=fresh) (f:=k) (wpOwn_of_wpAny (wpAny_fresh (ih _ h)))
 | ask k ih=>exact λh=>wpOwn_bind (m:=ask) (f:=k) (wpOwn_of_wpAny (wpAny_askSetting (ih _ h)))
 | choose=>exact λh=>h.elim
 | os=>exact λh=>h.elim
 | call c' hd g l k ih=>exact λh=>y_call _ _ _ _ _ _ _ _ _ _ _ _ _ h.1 (codeAny_mono h.2 λr s' h'=>ih _ h')
 | handled own k ih=>exact λ⟨e,h⟩=>by subst e;exact y_handled _ _ _ _ _ _ _ _ _ (ih _ h)
 | genState g k ih=>exact λ⟨st,hg,h⟩=>y_genState _ _ _ _ _ _ _ _ _ _ st hg (ih _ h)
 | newGen c' k ih =>
  intro Q E s h
  obtain ⟨h',g,d,tk,os⟩:=s
  exact y_newGen _ _ _ _ _ _ _ _ _ _ _ _ _ _ (ih _ h)
 | resume g r l k ih =>
  intro Q E s h
  rcases h with ⟨c₀,rfl,hg,h⟩ | ⟨k₀,l₀,c₀,p₀,fs₀,cl,hg,h⟩
  ·exact y_resume_f _ _ _ _ _ _ _ _ _ _ _ _ hg (SegX.mono h λe s' h'=>ih _ h')
  ·exact y_resume_s _ _ _ _ _ _ _ _ _ _ _ _ _ _ _ _ _ _ hg (SegX.mono h λe s' h'=>ih _ h')
 | yield=>exact λh=>h.elim
 | stack k ih=>exact λh=>y_stack _ _ _ _ _ _ _ _ _ λp b _=>ih _ (h p b)
 | fork=>exact λh=>h.elim
 | thread=>exact λh=>h.elim
 | await=>exact λh=>h.elim
theorem qrJ:∀(t:Sem α) {Q Q':α→T2→Prop} {E E':T1→T2→Prop} {s:T2},W prog w A c t Q E s→(∀a s,Q a s→Q' a s)→(∀e s,E e s→E' e s)→W prog w A c t Q' E' s:=by
 intro t
 induction t with
 | pure a=>exact λh q e=>q _ _ h
 | raise e=>exact λh q e=>e _ _ h
 | load a q k ih=>exact λ⟨o,ho,h⟩ q e=>⟨o,ho,ih _ h q e⟩
 | update a q f k ih=>exact λ⟨ho,h⟩ q e=>⟨ho,ih _ h q e⟩
 | loadIfAlive a k ih=>exact λ⟨o,ho,h⟩ q e=>⟨o,ho,ih _ h q e⟩
 | call c' hd g l k ih=>exact λh q e=>⟨h.1,codeAny_mono h.2 λr s' h'=>ih _ h' q e⟩
 | handled own k ih=>exact λh q e=>⟨h.1,ih _ h.2 q e⟩
 | genState g k ih=>exact λ⟨st,hg,h⟩ q e=>⟨st,hg,ih _ h q e⟩
 | resume g r l k ih =>
  intro Q Q' E E' s h q e
  rcases h with ⟨c₀,er,hg,h⟩ | ⟨k₀,l₀,c₀,p₀,fs₀,cl,hg,h⟩
  ·exact .inl ⟨c₀,er,hg,SegX.mono h λ_ s' h'=>ih _ h' q e⟩
  ·exact .inr ⟨k₀,l₀,c₀,p₀,fs₀,cl,hg,SegX.mono h λ_ s' h'=>ih _ h' q e⟩
 | stack k ih=>exact λh q e p b=>ih _ (h p b) q e
 | unsupported=>exact λh=>h.elim
 | finish=>exact λh=>h.elim
 | register=>exact λh=>h.elim
 | choose=>exact λh=>h.elim
 | os=>exact λh=>h.elim
 | yield=>exact λh=>h.elim
 | fork=>exact λh=>h.elim
 | thread=>exact λh=>h.elim
 | await=>exact λh=>h.elim
 | rule tag k ih=>exact λh q e=>ih _ h q e
 | «at» p k ih=>exact λh q e=>ih _ h q e
 | point p k ih=>exact λh q e=>ih _ h q e
 | alloc p k ih=>exact λh q e=>ih _ h q e
 | fresh k ih=>exact λh q e=>ih _ h q e
 | ask k ih=>exact λh q e=>ih _ h q e
 | newGen p k ih=>exact λh q e=>ih _ h q e
theorem qaB (f:α→Sem β) {Q:β→T2→Prop} {E:T1→T2→Prop}:∀(t:Sem α) {s:T2},W prog w A c (t >>= f) Q E s→W prog w A c t (λa s'=>W prog w A c (f a) Q E s') E s:=by
 intro t
 induction t with
 | pure a=>exact λh=>h
 | raise e=>exact λh=>h
 | load a q k ih=>exact λ⟨o,ho,h⟩=>⟨o,ho,ih _ h⟩
 | update a q f k ih=>exact λ⟨ho,h⟩=>⟨ho,ih _ h⟩
 | loadIfAlive a k ih=>exact λ⟨o,ho,h⟩=>⟨o,ho,ih _ h⟩
 | call c' hd g l k ih=>exact λh=>⟨h.1,codeAny_mono h.2 λr s' h'=>ih _ h'⟩
 | handled own k ih=>exact λh=>⟨h.1,ih _ h.2⟩
 | genState g k ih=>exact λ⟨st,hg,h⟩=>⟨st,hg,ih _ h⟩
 | resume g r l k ih =>
  intro s h
  rcases h with ⟨c₀,er,hg,h⟩ | ⟨k₀,l₀,c₀,p₀,fs₀,cl,hg,h⟩
  ·exact .inl ⟨c₀,er,hg,SegX.mono h λ_ s' h'=>ih _ h'⟩
  ·exact .inr ⟨k₀,l₀,c₀,p₀,fs₀,cl,hg,SegX.mono h λ_ s' h'=>ih _ h'⟩
 | stack k ih=>exact λh p b=>ih _ (h p b)
 | unsupported=>exact λh=>h.elim
 | finish=>exact λh=>h.elim
 | register=>exact λh=>h.elim
 | choose=>exact λh=>h.elim
 | os=>exact λh=>h.elim
 | yield=>exact λh=>h.elim
 | fork=>exact λh=>h.elim
 | thread=>exact λh=>h.elim
 | await=>exact λh=>h.elim
 | rule tag k ih=>exact λh=>ih _ h
 | «at» p k ih=>exact λh=>ih _ h
 | point p k ih=>exact λh=>ih _ h
 | alloc p k ih=>exact λh=>ih _ h
 | fresh k ih=>exact λh=>ih _ h
 | ask k ih=>exact λh=>ih _ h
 | newGen p k ih=>exact λh=>ih _ h
theorem qkq (f:T1→Sem Unit) {Q:α→T2→Prop} {E:T1→T2→Prop}:∀(t:Sem α) {s:T2},W prog w A c (t.onRaise f) Q E s→W prog w A c t Q (λe s'=>W prog w A c (f e) (λ_ s''=>E e s'') E s') s:=by
 intro t
 induction t with
 | pure a=>exact λh=>h
 | raise e=>exact λh=>qaB _ _ h
 | load a q k ih=>exact λ⟨o,ho,h⟩=>⟨o,ho,ih _ h⟩
 | update a q f k ih=>exact λ⟨ho,h⟩=>⟨ho,ih _ h⟩
 | loadIfAlive a k ih=>exact λ⟨o,ho,h⟩=>⟨o,ho,ih _ h⟩
 | call c' hd g l k ih=>exact λh=>⟨h.1,codeAny_mono h.2 λr s' h'=>ih _ h'⟩
 | handled own k ih=>exact λh=>⟨h.1,ih _ h.2⟩
 | genState g k ih=>exact λ⟨st,hg,h⟩=>⟨st,hg,ih _ h⟩
 | resume g r l k ih =>
  intro s h
  rcases h with ⟨c₀,er,hg,h⟩ | ⟨k₀,l₀,c₀,p₀,fs₀,cl,hg,h⟩
  ·exact .inl ⟨c₀,er,hg,SegX.mono h λ_ s' h'=>ih _ h'⟩
  ·exact .inr ⟨k₀,l₀,c₀,p₀,fs₀,cl,hg,SegX.mono h λ_ s' h'=>ih _ h'⟩
 | stack k ih=>exact λh p b=>ih _ (h p b)
 | unsupported=>exact λh=>h.elim
 | finish=>exact λh=>h.elim
 | register=>exact λh=>h.elim
 | choose=>exact λh=>h.elim
 | os=>exact λh=>h.elim
 | yield=>exact λh=>h.elim
 | fork=>exact λh=>h.elim
 | thread=>exact λh=>h.elim
 | await=>exact λh=>h.elim
 | rule tag k ih=>exact λh=>ih _ h
 | «at» p k ih=>exact λh=>ih _ h
 | point p k ih=>exact λh=>ih _ h
 | alloc p k ih=>exact λh=>ih _ h
 | fresh k ih=>exact λh=>ih _ h
 | ask k ih=>exact λh=>ih _ h
 | newGen p k ih=>exact λh=>ih _ h
theorem qrK (vs:List T1) {Q:α→T2→Prop} {E:T1→T2→Prop}:∀(t:Sem α) {s:T2},W prog w A c (Sem.keep vs t) Q E s→W prog w A c t Q E s:=by
 intro t
 induction t with
 | pure a=>exact λh=>h
 | raise e=>exact λh=>h
 | load a q k ih=>exact λ⟨o,ho,h⟩=>⟨o,ho,ih _ h⟩
 | update a q f k ih=>exact λ⟨ho,h⟩=>⟨ho,ih _ h⟩
 | loadIfAlive a k ih=>exact λ⟨o,ho,h⟩=>⟨o,ho,ih _ h⟩
 | call c' hd g l k ih=>exact λh=>⟨h.1,codeAny_mono h.2 λr s' h'=>ih _ h'⟩
 | handled own k ih=>exact λh=>⟨h.1,ih _ h.2⟩
 | genState g k ih=>exact λ⟨st,hg,h⟩=>⟨st,hg,ih _ h⟩
 | resume g r l k ih =>
  intro s h
  rcases h with ⟨c₀,er,hg,h⟩ | ⟨k₀,l₀,c₀,p₀,fs₀,cl,hg,h⟩
  ·exact .inl ⟨c₀,er,hg,SegX.mono h λ_ s' h'=>ih _ h'⟩
  ·exact .inr ⟨k₀,l₀,c₀,p₀,fs₀,cl,hg,SegX.mono h λ_ s' h'=>ih _ h'⟩
 | stack k ih=>exact λh p b=>ih _ (h p b)
 | unsupported=>exact λh=>h.elim
 | finish=>exact λh=>h.elim
 | register=>exact λh=>h.elim
 | choose=>exact λh=>h.elim
 | os=>exact λh=>h.elim
 | yield=>exact λh=>h.elim
 | fork=>exact λh=>h.elim
 | thread=>exact λh=>h.elim
 | await=>exact λh=>h.elim
 | rule tag k ih=>exact λh=>ih _ h
 | «at» p k ih=>exact λh=>ih _ h
 | point p k ih=>exact λh=>ih _ h
 | alloc p k ih=>exact λh=>ih _ h
 | fresh k ih=>exact λh=>ih _ h
 | ask k ih=>exact λh=>ih _ h
 | newGen p k ih=>exact λh=>ih _ h
end
end
section
open Sem (wp)
section
variable (prog:T6) (w:T3) (A₀:Around) (R₀:Result→T2→Prop)
noncomputable def arK:FK→Around
 | .base=>A₀
 | .ret c hd _ κ=>((arK κ).under c).mark hd
 | .seg c fs hd _ κ=>((arK κ).over c fs).mark hd
 | .gen _ _ c _ κ=>(arK κ).under c
mutual
def endK:FK→Result→T2→Prop
 | .base,r,s=>R₀ r s
 | .ret c _ k κ,r,s=>W prog w (arK A₀ κ) c (k r) (postC prog w (arK A₀ κ) (endK κ)) (postE (endK κ)) s
 | .seg c fs _ k κ,r,s=>SegX (model prog w) (arK A₀ κ) c (k r) fs s (wakeK κ)
 | .gen _ _ _ _ _,_,_=>False
def wakeK:FK→End→T2→Prop
 | .gen _ g c k κ,e,s=>W prog w (arK A₀ κ) c (k e.result) (postC prog w (arK A₀ κ) (endK κ)) (postE (endK κ)) (s.setGen g e.genState)
 | .base,_,_=>False
 | .ret _ _ _ _,_,_=>False
 | .seg _ _ _ _ _,_,_=>False
end
noncomputable def arC (md:Option (List Frame)) (κ:FK) (c:Code):Around:=match md with
 | none=>(arK A₀ κ).under c
 | some fs=>(arK A₀ κ).over c fs
noncomputable def MeansF (c:Code) (md:Option (List Frame)) (κ:FK) (t:Sem Fin) (s:T2):Prop:=match md with
 | none=>W prog w (arK A₀ κ) c t (postC prog w (arK A₀ κ) (endK prog w A₀ R₀ κ)) (postE (endK prog w A₀ R₀ κ)) s
 | some fs=>SegX (model prog w) (arK A₀ κ) c t fs s (wakeK prog w A₀ R₀ κ)
end
noncomputable def FEq (σ:FS):Prop:=(∀p∈σ.eqs,p.1=p.2)∧(∀p∈σ.vqs,p.1=p.2)∧(∀p∈σ.oqs,p.1=p.2)∧(∀p∈σ.cqs,p.1=p.2)∧(∀p∈σ.aqs,p.1=p.2)∧(∀p∈σ.kqs,p.1=p.2)∧∀P∈σ.sqs,P
noncomputable def Objs (h:Heap):List Nat→List Obj→Prop
 | [],[]=>True
 | a::as,o::os=>h.get? a=some o∧Objs h as os
 | _,_=>False
structure Post (C:Ctr) (ads:List Nat) (ν:Nat→Nat) (s s':T2):Prop where
 post:Objs s'.heap ads (C.post ads ν)
 news:Objs s'.heap (nuFrom ν 3 (C.news ads ν)) (C.news ads ν)
 nodup:(nuFrom ν 3 (C.news ads ν)).Nodup
 ge:∀a∈nuFrom ν 3 (C.news ads ν),s.heap.objs.size≤a
 keep:∀b o,s.heap.get? b=some o→b∉ads→s'.heap.get? b=some o
 le0:s.heap.objs.size≤ν 0
 sz:s'.heap.objs.size=ν 0
 tk:s'.toks=ν 1
 gs:s'.gens.size=ν 2
 le2:s.gens.size≤ν 2
 gk:∀i,i<s.gens.size→s'.gens[i]? = s.gens[i]?
 bare:∀x∈s'.gens,x.bare=true
 dr:s'.drawn=s.drawn
 os:s'.os=s.os
 kp:∀k∈C.kpost ads ν,(k.map (·.1)).Nodup∧∀p∈k,s'.heap.get? p.1=some p.2∧s.heap.objs.size≤p.1∧p.1∉nuFrom ν 3 (C.news ads ν)
noncomputable def KeyOk (kt:Nat→Option Obj) (own:List Nat) (h:Heap) (k:Key):Prop:=(k.map (·.1)).Nodup∧∀p∈k,h.get? p.1=some p.2∧p.1∉own∧kt p.1=none
noncomputable def FrzOk (C:Ctr) (kt:Nat→Option Obj) (ads:List Nat) (h:Heap):Prop:=match C.fside with
 | none=>∀k∈C.frz,KeyOk kt ads h k
 | some P=>∃ks,P ks∧∀k∈ks,KeyOk kt ads h k
noncomputable def OkA (C:Ctr) (ads:List Nat) (A:Around):Prop:=match C.frs with
 | none=>∀p∈C.ok ads,p.1=p.2
 | some f=>A.frames=some (f ads)∧∀p∈C.ok ads,p.1=p.2
noncomputable def frOf (C:Ctr) (ads:List Nat):Option (List Env):=match C.frs with
 | none=>none
 | some f=>some (f ads)
theorem OkA.ok {C:Ctr} {ads:List Nat} {A:Around} (h:OkA C ads A):∀p∈C.ok ads,p.1=p.2:=by
 unfold OkA at h
 split at h
 ·exact h
 ·exact h.2
theorem OkA.fr {C:Ctr} {ads:List Nat} {A:Around} (h:OkA C ads A):∀l,frOf C ads=some l→A.frames=some l:=by
 intro l e
 unfold OkA at h
 unfold frOf at e
 split at h
 ·rename_i q
  rw [q] at e;cases e
 ·rename_i q
  rw [q] at e;cases e;exact h.1
theorem qco {A:Around} {fr:Option (List Env)} (h:∀l,fr=some l→A.frames=some l):∀(κ:FK) l,framesF fr κ=some l→(arK A κ).frames=some l
 | .base,l,e=>h l e
 | .ret c hd k κ,l,e=>by
  obtain ⟨l0,e0,rfl⟩:=pushEnvs_some e
  show pushEnvs c.envs (arK A κ).frames=_
  rw [qco h κ l0 e0,pushEnvs_eq];rfl
 | .gen _ _ c k κ,l,e=>by
  obtain ⟨l0,e0,rfl⟩:=pushEnvs_some e
  show pushEnvs c.envs (arK A κ).frames=_
  rw [qco h κ l0 e0,pushEnvs_eq];rfl
 | .seg c fs hd k κ,l,e=>by
  obtain ⟨l0,e0,rfl⟩:=pushEnvs_some e
  obtain ⟨l1,e1,rfl⟩:=pushEnvs_some e0
  show pushEnvs c.envs (pushEnvs (envsOf (fs.map Frame.where_)) (arK A κ).frames)=_
  rw [qco h κ l1 e1,pushEnvs_eq,pushEnvs_eq];rfl
noncomputable def After (prog:T6) (w:T3) (A:Around) (R:Result→T2→Prop) (s':T2):vH→Prop
 | .done r=>R r s'
 | .go c'=>codeAny (model prog w) A c' R s'
noncomputable def Valid (prog:T6) (w:T3) (kt:Nat→Option Obj) (lev:Nat) (C:Ctr):Prop:=∀(A:Around) (ads:List Nat) (s:T2) (R:Result→T2→Prop),A.handled=none→A.depth+130*lev<U0→A.units+260*lev<cLine→
 (∀a o,kt a=some o→s.heap.get? a=some o)→OkA C ads A→ads.Nodup→(∀a∈ads,kt a=none)→Objs s.heap ads (C.pre ads)→FrzOk C kt ads s.heap→(∀x∈s.gens,x.bare=true)→
 (∀ν s',Post C ads ν s s'→After prog w A R s' (C.res ads ν))→codeAny (model prog w) A (C.code ads) R s
noncomputable def AllValid (prog:T6) (w:T3) (kt:Nat→Option Obj) (lev:Nat) (cs:List CH):Prop:=∀h∈cs,∀x,h.c=some x→∀c os,Valid prog w kt lev (x.1 c os)
structure FRep (V:FV) (s₀:T2) (σ:FS) (s:T2):Prop where
 size:s.heap.objs.size+σ.ad.length=σ.N+σ.cnt
 lo:σ.ad.length≤σ.cnt
 nodup:σ.ad.Nodup
 low:∀a∈σ.ad,a<σ.N
 own:∀j o,σ.T.get j=some o→j<σ.cnt∧s.heap.get? (adF σ.ad σ.N j)=some o
 far:∀a∈σ.ad,a∈V.own∨V.n0≤a
 base:V.n0≤σ.N
 kt:∀a o,V.kt a=some o→s.heap.get? a=some o
 keep:∀b o,s₀.heap.get? b=some o→b∉V.own→s.heap.get? b=some o
 toks:s.toks=σ.t0+σ.i
 gsz:s.gens.size=σ.gN+σ.gc
 gens:∀j x,lGet σ.gl j=some x→s.gens[x.1]? = some x.2
 ginj:∀i j x y,lGet σ.gl i=some x→lGet σ.gl j=some y→x.1=y.1→i=j
 gfar:∀j x,lGet σ.gl j=some x→x.1∈V.gown∨V.g0≤x.1
 gkeep:∀i,i<V.g0→i∉V.gown→s.gens[i]? = s₀.gens[i]?
 gbase:V.g0≤σ.gN
 bare:∀x∈s.gens,x.bare=true
 drawn:s.drawn=s₀.drawn
 os:s.os=s₀.os
 fz:∀k∈σ.fz,(k.map (·.1)).Nodup∧∀p∈k,s.heap.get? p.1=some p.2∧(∀j o,σ.T.get j=some o→adF σ.ad σ.N j≠p.1)∧V.kt p.1=none
structure FOk (V:FV) (w:T3) (s₀:T2):Prop where
 par:w.params=V.par0∨w.params=V.par1
 size:s₀.heap.objs.size=V.n0
 ktOff:∀a o,V.kt a=some o→a∉V.own∧a<V.n0
theorem vj:∀{l:List Nat} {N j:Nat},(∀a∈l,a<N)→j<l.length→adF l N j<N∧adF l N j∈l
 | a::l,N,0,h,_=>⟨h a (.head _), .head _⟩
 | a::l,N,j+1,h,hj=>by
  have:=vj (l:=l) (N:=N) (j:=j) (λb hb=>h b (.tail _ hb)) (L6 hj)
  exact ⟨this.1, .tail _ this.2⟩
theorem vU:∀{l:List Nat} {N j:Nat},l.length≤j→adF l N j+l.length=N+j
 | [],N,j,_=>rfl
 | a::l,N,0,h=>absurd h (P9 _)
 | a::l,N,j+1,h=>by
  have:=vU (l:=l) (N:=N) (j:=j) (P5 h)
  show adF l N j+(l.length+1)=N+(j+1)
  lia
theorem vT:∀{l:List Nat} {N i j:Nat},l.Nodup→(∀a∈l,a<N)→adF l N i=adF l N j→i=j
 | [],N,i,j,_,_,e=>Q5 e
 | a::l,N,0,0,_,_,_=>rfl
 | a::l,N,0,j+1,hn,hl,e=>by
  exfalso
  rw [F3] at hn
  have e:a=adF l N j:=e
  by_cases hj:j<l.length
  ·exact hn.1 (e▸(vj (λb hb=>hl b (.tail _ hb)) hj).2)
  ·have:=vU (l:=l) (N:=N) (j:=j) (by lia)
   have:=hl a (.head _)
   lia
 | a::l,N,i+1,0,hn,hl,e=>by
  exfalso
  rw [F3] at hn
  have e:a=adF l N i:=e.symm
  by_cases hj:i<l.length
  ·exact hn.1 (e▸(vj (λb hb=>hl b (.tail _ hb)) hj).2)
  ·have:=vU (l:=l) (N:=N) (j:=i) (by lia)
   have:=hl a (.head _)
   lia
 | a::l,N,i+1,j+1,hn,hl,e=>by
  rw [F3] at hn
  rw [vT hn.2 (λb hb=>hl b (.tail _ hb)) e]
section
variable {V:FV} {w:T3} {s₀ s:T2} {σ:FS}
theorem FRep.alloc (D:FRep V s₀ σ s) {o:Obj} (hf:o.isFreed=false) (hg:((σ.T.ins σ.cnt o).get σ.cnt).isSome=true) :
  adF σ.ad σ.N σ.cnt=s.heap.objs.size∧FRep V s₀ {σ with T:=σ.T.ins σ.cnt o,cnt:=σ.cnt+1} {s with heap:=s.heap.push o}:=by
 have ha:adF σ.ad σ.N σ.cnt=s.heap.objs.size:=by
  have:=vU (l:=σ.ad) (N:=σ.N) D.lo
  have:=D.size
  lia
 refine ⟨ha,{D with size := ?_,lo:=R5 D.lo,own:=λj o' e => ?_,kt:=λa o' e=>E8 _ (D.kt a o' e),keep:=λb o' e hb=>E8 _ (D.keep b o' e hb),fz:=λk hk=>⟨(D.fz k hk).1,λp hp => ?_⟩}⟩
 ·show (s.heap.push o).objs.size+σ.ad.length=σ.N+(σ.cnt+1)
  rw [J4]
  have:=D.size
  lia
 ·have e:(σ.T.ins σ.cnt o).get j=some o':=e
  rw [BT.get_ins o σ.T σ.cnt hg] at e
  by_cases hj:j=σ.cnt
  ·subst hj
   rw [if_pos rfl] at e
   cases e
   exact ⟨R9 _,by show (s.heap.push _).get? (adF σ.ad σ.N σ.cnt)=_;rw [ha];exact I4 _ hf⟩
  ·rw [if_neg hj] at e
   have z:=D.own j o' e
   exact ⟨O3 z.1,E8 _ z.2⟩
 ·obtain ⟨h1,h2,h3⟩:=(D.fz k hk).2 p hp
  refine ⟨E8 _ h1,λj o' e => ?_,h3⟩
  have e:(σ.T.ins σ.cnt o).get j=some o':=e
  rw [BT.get_ins o σ.T σ.cnt hg] at e
  by_cases hj:j=σ.cnt
  ·subst hj
   have:p.1<s.heap.objs.size:=I0 h1
   show adF σ.ad σ.N σ.cnt≠p.1
   lia
  ·rw [if_neg hj] at e
   exact h2 j o' e
theorem FRep.update (O:FOk V w s₀) (D:FRep V s₀ σ s) {j:Nat} {o:Obj} {f:Obj→Obj} (e:σ.T.get j=some o) (hf:(f o).isFreed=false) :
  FRep V s₀ {σ with T:=σ.T.set j f} {s with heap:=s.heap.update (adF σ.ad σ.N j) f}:=by
 have z:=D.own j o e
 have hs:N1 (adF σ.ad σ.N j) s.heap (s.heap.update (adF σ.ad σ.N j) f):=N1.update ..
 have ne:∀a,a∉V.own→a<V.n0→a≠adF σ.ad σ.N j:=by
  intro a ha hl q
  by_cases hj:j<σ.ad.length
  ·rcases D.far _ (vj D.low hj).2 with h | h
   ·exact ha (q▸h)
   ·lia
  ·have:=vU (l:=σ.ad) (N:=σ.N) (j:=j) (by lia)
   have:=D.base
   lia
 refine {D with size := ?_,own:=λi o' e' => ?_,kt:=λa o' e'=>(hs.2 a (ne a (O.ktOff a o' e').1 (O.ktOff a o' e').2)).trans (D.kt a o' e'),keep:=λb o' e' hb=>(hs.2 b (ne b hb (by rw [←O.size];exact I0 e'))).trans (D.keep b o' e' hb),fz:=λk hk=>⟨(D.fz k hk).1,λp hp => ?_⟩}
 ·show (s.heap.update _ f).objs.size+σ.ad.length=σ.N+σ.cnt
  rw [hs.1];exact D.size
 ·have e':(σ.T.set j f).get i=some o':=e'
  rw [BT.get_set] at e'
  by_cases hi:i=j
  ·subst hi
   rw [if_pos rfl,e] at e'
   cases e'
   exact ⟨z.1,G2 f z.2 hf⟩
  ·rw [if_neg hi] at e'
   have y:=D.own i o' e'
   exact ⟨y.1,(hs.2 _ λq=>hi (vT D.nodup D.low q)).trans y.2⟩
 ·obtain ⟨h1,h2,h3⟩:=(D.fz k hk).2 p hp
  refine ⟨(hs.2 _ λq=>h2 j o e q.symm).trans h1,λi o' e' => ?_,h3⟩
  have e':(σ.T.set j f).get i=some o':=e'
  rw [BT.get_set] at e'
  by_cases hi:i=j
  ·subst hi
   exact h2 i o e
  ·rw [if_neg hi] at e'
   exact h2 i o' e'
theorem FRep.eqs (D:FRep V s₀ σ s) (e:List (Nat×Nat)) (v:List (T1×T1)) (h:List Nat) (u:List (Nat×T1)) (cs:List CH):FRep V s₀ {σ with eqs:=e,vqs:=v,hs:=h,ih:=u,cs:=cs} s:={D with}
theorem FRep.asks (D:FRep V s₀ σ s) (a:List (Sem Fin×Sem Fin)):FRep V s₀ {σ with aqs:=a} s:={D with}
theorem qnt {α:Type}:∀{l:List α} {j:Nat} {x:α},lGet l j=some x→j<l.length
 | _::_,0,_,_=>M3 _
 | _::l,j+1,x,h=>S2 (qnt (l:=l) h)
theorem qeU {α:Type}:∀{l:List α} {j:Nat} {x:α},lGet l j=some x→x∈l
 | a::l,0,x,h=>by cases h;exact .head _
 | a::l,j+1,x,h => .tail _ (qeU (l:=l) h)
theorem yF {α:Type}:∀{l:List α} {y:α} {j:Nat} {x:α},lGet (l++[y]) j=some x→lGet l j=some x∨(j=l.length∧x=y)
 | [],y,0,x,h=>by cases h;exact .inr ⟨rfl,rfl⟩
 | [],y,j+1,x,h=>by cases h
 | a::l,y,0,x,h => .inl h
 | a::l,y,j+1,x,h=>by
  rcases yF (l:=l) (y:=y) (j:=j) h with h | ⟨h,e⟩
  ·exact .inl h
  ·exact .inr ⟨congrArg G6 h,e⟩
theorem uq:∀{l:List (Nat×GenState)} {j i:Nat} {y:GenState} {x:Nat×GenState},lGet (lSet l j y) i=some x→(i=j∧∃z,lGet l j=some z∧x=(z.1,y))∨(i≠j∧lGet l i=some x)
 | [],_,_,_,_,h=>by cases h
 | a::l,0,0,y,x,h=>by cases h;exact .inl ⟨rfl,a,rfl,rfl⟩
 | a::l,0,i+1,y,x,h => .inr ⟨S3 _,h⟩
 | a::l,j+1,0,y,x,h => .inr ⟨(S3 _).symm,h⟩
 | a::l,j+1,i+1,y,x,h=>by
  rcases uq (l:=l) (j:=j) (i:=i) h with ⟨e,z⟩ | ⟨e,z⟩
  ·exact .inl ⟨congrArg G6 e,z⟩
  ·exact .inr ⟨λq=>e (G6.inj q),z⟩
theorem FRep.newGen (D:FRep V s₀ σ s) (c:Code):s.gens.size=σ.gN+σ.gc∧FRep V s₀ {σ with gl:=σ.gl++[(σ.gN+σ.gc, .fresh c)],gc:=σ.gc+1} {s with gens:=s.gens.push (.fresh c)}:=by
 have lt:∀j x,lGet σ.gl j=some x→x.1<s.gens.size:=λj x h=>by
  have:=D.gens j x h
  exact (L3.mp this).1
 refine ⟨D.gsz,{D with gsz := ?_,gens:=λj x h => ?_,ginj:=λi j x y hi hj e => ?_,gfar:=λj x h => ?_,gkeep:=λi hi hn => ?_,bare:=λx hx => ?_}⟩
 ·show (s.gens.push _).size=σ.gN+(σ.gc+1)
  rw [K4,D.gsz];rfl
 ·show (s.gens.push _)[x.1]? = _
  rcases yF h with h | ⟨_,rfl⟩
  ·rw [N5,if_neg (N2 (lt j x h))];exact D.gens j x h
  ·rw [N5,if_pos D.gsz.symm]
 ·rcases yF hi with hi | ⟨ei,rfl⟩ <;> rcases yF hj with hj | ⟨ej,rfl⟩
  ·exact D.ginj i j x y hi hj e
  ·exact absurd (e.trans D.gsz.symm) (N2 (lt i x hi))
  ·exact absurd (e.symm.trans D.gsz.symm) (N2 (lt j y hj))
  ·rw [ei,ej]
 ·rcases yF h with h | ⟨_,rfl⟩
  ·exact D.gfar j x h
  ·exact .inr (E7 D.gbase (S4 ..))
 ·have h1:=D.gkeep i hi hn
  have h2:=D.gsz
  have h3:=D.gbase
  show (s.gens.push _)[i]? = _
  rw [N5,if_neg (by lia)];exact h1
 ·rcases Array.mem_push.mp hx with h | rfl
  ·exact D.bare x h
  ·rfl
theorem FRep.setGen (D:FRep V s₀ σ s) {j:Nat} {z:Nat×GenState} (h:lGet σ.gl j=some z) (y:GenState) (hy:y.bare=true):FRep V s₀ {σ with gl:=lSet σ.gl j y} (s.setGen z.1 y):=by
 have lt:z.1<s.gens.size:=(L3.mp (D.gens j z h)).1
 refine {D with gsz := ?_,gens:=λi x hx => ?_,ginj:=λi i' x x' hi hi' e => ?_,gfar:=λi x hx => ?_,gkeep:=λi hi hn => ?_,bare:=λx hx => ?_}
 ·show (s.gens.setIfInBounds z.1 y).size=_
  rw [Array.size_setIfInBounds];exact D.gsz
 ·show (s.gens.setIfInBounds z.1 y)[x.1]? = _
  rcases uq hx with ⟨e,z',hz,rfl⟩ | ⟨e,hx⟩
  ·rw [h] at hz;cases hz
   rw [L8,if_pos rfl,if_pos lt]
  ·rw [L8,if_neg (λq=>e (D.ginj i j x z hx h q.symm))];exact D.gens i x hx
 ·have key:∀{i x},lGet (lSet σ.gl j y) i=some x→∃x',lGet σ.gl i=some x'∧x'.1=x.1:=by
   intro i x hx
   rcases uq hx with ⟨e,z',hz,rfl⟩ | ⟨e,hx⟩
   ·exact ⟨z',e▸hz,rfl⟩
   ·exact ⟨x,hx,rfl⟩
  obtain ⟨a,ha,ea⟩:=key hi
  obtain ⟨b,hb,eb⟩:=key hi'
  exact D.ginj i i' a b ha hb (by rw [ea,eb,e])
 ·rcases uq hx with ⟨e,z',hz,rfl⟩ | ⟨e,hx⟩
  ·exact D.gfar j z' hz
  ·exact D.gfar i x hx
 ·show (s.gens.setIfInBounds z.1 y)[i]? = _
  rw [L8,if_neg]
  ·exact D.gkeep i hi hn
  ·intro q
   rcases D.gfar j z h with q' | q'
   ·exact hn (q▸q')
   ·lia
 ·have hx:x∈s.gens.setIfInBounds z.1 y:=hx
  rcases Array.mem_or_eq_of_mem_setIfInBounds hx with h | rfl
  ·exact D.bare x h
  ·exact hy
theorem qaz {ad:List Nat} {N N':Nat}:∀(n:Nat) (l:List Nat) (j:Nat),adF (adAll ad N n l) N' j=if j<n then adF ad N j else adF l N' (j-n)
 | 0,l,j=>by simp [adAll]
 | n+1,l,j=>by
  rw [adAll,qaz n]
  by_cases h1:j<n
  ·rw [if_pos h1,if_pos (by lia)]
  ·rw [if_neg h1]
   by_cases h2:j=n
   ·subst h2
    rw [if_pos (by lia),Nat.sub_self];rfl
   ·rw [if_neg (by lia)]
    obtain ⟨k,rfl⟩:∃k,j=n+1+k:=⟨j-(n+1),by lia⟩
    rw [show n+1+k-n=k+1 by lia,show n+1+k-(n+1)=k by lia];rfl
theorem qal {ad:List Nat} {N:Nat}:∀(n:Nat) (l:List Nat),(adAll ad N n l).length=n+l.length
 | 0,l=>by simp [adAll]
 | n+1,l=>by rw [adAll,qal n,K7];lia
theorem qah {ad:List Nat} {N a:Nat}:∀(n:Nat) (l:List Nat),a∈adAll ad N n l→(∃j,j<n∧a=adF ad N j)∨a∈l
 | 0,l,h => .inr h
 | n+1,l,h=>by
  rcases qah n _ h with ⟨j,hj,e⟩ | h
  ·exact .inl ⟨j,by lia,e⟩
  ·rcases E2.mp h with e | h
   ·exact .inl ⟨n,by lia,e⟩
   ·exact .inr h
theorem qa6 {ad:List Nat} {N:Nat}:∀(n:Nat) (l:List Nat),(∀i j,i<n→j<n→adF ad N i=adF ad N j→i=j)→l.Nodup→(∀j,j<n→adF ad N j∉l)→(adAll ad N n l).Nodup
 | 0,l,_,h,_=>h
 | n+1,l,hi,h,hn=>by
  rw [adAll]
  refine qa6 n _ (λi j h1 h2 e=>hi i j (by lia) (by lia) e) (F3.mpr ⟨hn n (by lia),h⟩) λj hj hm => ?_
  rcases E2.mp hm with e | hm
  ·have:=hi j n (by lia) (by lia) e
   lia
  ·exact hn j (by lia) hm
theorem wn {α:Type}:∀l:List α,vD l=l.length
 | []=>rfl
 | _::l=>congrArg G6 (wn l)
theorem qb1 {ν:Nat→Nat}:∀(n:Nat) (l:List Obj),(nuFrom ν n l).length=l.length
 | _,[]=>rfl
 | n,_::l=>congrArg G6 (qb1 (n+1) l)
theorem Objs.at {h:Heap} {N:Nat}:∀{as:List Nat} {os:List Obj} {k:Nat} {o:Obj},Objs h as os→os[k]? = some o→k<as.length∧h.get? (adF as N k)=some o
 | [],[],k,o,_,e=>by simp at e
 | a::as,b::os,0,o,H,e=>by
  simp at e;subst e
  exact ⟨M3 _,H.1⟩
 | a::as,b::os,k+1,o,H,e=>by
  have e:os[k]? = some o:=by simpa using e
  have z:=Objs.at (N:=N) H.2 e
  exact ⟨S2 z.1,z.2⟩
 | [],_::_,_,_,H,_=>H.elim
 | _::_,[],_,_,H,_=>H.elim
theorem Objs.mem {h:Heap}:∀{as:List Nat} {os:List Obj} {a:Nat},Objs h as os→a∈as→∃o,h.get? a=some o
 | [],_,_,_,hm=>nomatch hm
 | a::as,b::os,x,H,hm=>by
  rcases E2.mp hm with rfl | hm
  ·exact ⟨b,H.1⟩
  ·exact Objs.mem H.2 hm
 | _::_,[],_,H,_=>H.elim
theorem y5 {T':BT}:∀{ns:List Obj} {T:BT} {n i:Nat} {o:Obj},insAll T n ns=some T'→T'.get i=some o→T.get i=some o∨(∃k,i=n+k∧ns[k]? = some o)
 | [],T,n,i,o,e,h=>by cases e;exact .inl h
 | x::ns,T,n,i,o,e,h=>by
  simp only [insAll] at e
  split at e
  ·rename_i y hy
   rcases y5 e h with h | ⟨k,rfl,hk⟩
   ·rw [BT.get_ins x T n (by rw [hy];rfl)] at h
    by_cases hi:i=n
    ·subst hi
     rw [if_pos rfl] at h
     exact .inr ⟨0,rfl,by simpa using h⟩
    ·rw [if_neg hi] at h
     exact .inl h
   ·exact .inr ⟨k+1,by lia,by simpa using hk⟩
  ·cases e
theorem v5 {h:Heap} {g:Nat→Nat}:∀{js:List Nat} {os:List Obj} {T:BT} {i:Nat} {o:Obj},Objs h (js.map g) os→(setAll T js os).get i=some o→(∃o',T.get i=some o')∧((i∈js∧h.get? (g i)=some o)∨(i∉js∧T.get i=some o))
 | [],[],T,i,o,_,e=>⟨⟨o,e⟩, .inr ⟨λh=>(nomatch h),e⟩⟩
 | j::js,x::os,T,i,o,H,e=>by
  have z:=v5 (T:=T.set j λ_=>x) H.2 e
  obtain ⟨⟨o',h'⟩,z⟩:=z
  rw [BT.get_set] at h'
  have hex:∃o',T.get i=some o':=by
   by_cases hi:i=j
   ·subst hi
    rw [if_pos rfl] at h'
    cases hT:T.get i with
    | none=>rw [hT] at h';cases h'
    | some y=>exact ⟨y,rfl⟩
   ·rw [if_neg hi] at h'
    exact ⟨_,h'⟩
  refine ⟨hex,?_⟩
  rcases z with ⟨hm,hg⟩ | ⟨hm,hg⟩
  ·exact .inl ⟨.tail _ hm,hg⟩
  ·rw [BT.get_set] at hg
   by_cases hi:i=j
   ·subst hi
    rw [if_pos rfl] at hg
    obtain ⟨y,hy⟩:=hex
    rw [hy] at hg
    cases hg
    exact .inl ⟨.head _,H.1⟩
   ·rw [if_neg hi] at hg
    exact .inr ⟨λh=>(E2.mp h).elim hi hm,hg⟩
 | [],_::_,_,_,_,H,_=>H.elim
 | _::_,[],_,_,_,H,_=>H.elim
theorem qe0 {n:Nat}:∀{l:List Nat},qhS n l=false→n∉l
 | [],_=>λh=>nomatch h
 | m::l,h=>by
  unfold qhS at h
  split at h
  ·cases h
  ·rename_i hb
   intro hm
   rcases E2.mp hm with rfl | hm
   ·exact absurd rfl (Nat.ne_of_beq_eq_false hb)
   ·exact qe0 h hm
theorem qa8:∀{l:List Nat},qdS l=true→l.Nodup
 | [],_=>F8
 | n::l,h=>by
  unfold qdS at h
  split at h
  ·cases h
  ·rename_i hb
   exact F3.mpr ⟨qe0 hb,qa8 h⟩
theorem FRep.adr (O:FOk V w s₀) (D:FRep V s₀ σ s) {j:Nat} (hj:j<σ.cnt):adF σ.ad σ.N j<s.heap.objs.size∧(adF σ.ad σ.N j∈V.own∨V.n0≤adF σ.ad σ.N j):=by
 have h1:=D.size
 have h2:=D.lo
 have h3:=D.base
 by_cases h:j<σ.ad.length
 ·have z:=vj D.low h
  exact ⟨by lia,D.far _ z.2⟩
 ·have z:=vU (l:=σ.ad) (N:=σ.N) (j:=j) (by lia)
  exact ⟨by lia, .inr (by lia)⟩
theorem yG (D:FRep V s₀ σ s):∀{js:List Nat} {os:List Obj},getAll σ.T js=some os→Objs s.heap (js.map (adF σ.ad σ.N)) os∧∀j∈js,j<σ.cnt
 | [],os,e=>by cases e;exact ⟨trivial,λ_ h=>nomatch h⟩
 | j::js,os,e=>by
  simp only [getAll] at e
  split at e
  ·rename_i o ho
   split at e
   ·rename_i os' hos
    cases e
    have z:=yG D hos
    have y:=D.own j o ho
    exact ⟨⟨y.2,z.1⟩,λi hi=>(E2.mp hi).elim (λe=>e▸y.1) (z.2 i)⟩
   ·cases e
  ·cases e
theorem ut {T:BT}:∀{js:List Nat} {os:List Obj} {j:Nat},getAll T js=some os→j∈js→∃o,T.get j=some o
 | [],_,_,_,h=>nomatch h
 | i::js,os,j,e,h=>by
  simp only [getAll] at e
  split at e
  ·rename_i o ho
   split at e
   ·rename_i os' hos
    rcases E2.mp h with rfl | h
    ·exact ⟨o,ho⟩
    ·exact ut hos h
   ·cases e
  ·cases e
theorem FRep.ctr (O:FOk V w s₀) (D:FRep V s₀ σ s) {s':T2} {C:Ctr} {ks:List Key} {fo:Option (List Env)} {c:Code} {cs':List CH} {js:List Nat} {os ns posts:List Obj} {T':BT} {ν:Nat→Nat}
  (hg:getAll σ.T js=some os) (hT:insAll (setAll σ.T js posts) σ.cnt ns=some T')
  (hp:Objs s'.heap (js.map (adF σ.ad σ.N)) posts) (hn:Objs s'.heap (nuFrom ν 3 ns) ns) (nd:(nuFrom ν 3 ns).Nodup) (ge:∀a∈nuFrom ν 3 ns,s.heap.objs.size≤a)
  (kp:∀b o,s.heap.get? b=some o→b∉js.map (adF σ.ad σ.N)→s'.heap.get? b=some o) (h0:s.heap.objs.size≤ν 0) (h1:s'.heap.objs.size=ν 0) (h2:s'.toks=ν 1) (h3:s'.gens.size=ν 2) (h4:s.gens.size≤ν 2)
  (h5:∀i,i<s.gens.size→s'.gens[i]? = s.gens[i]?) (h6:∀x∈s'.gens,x.bare=true) (h7:s'.drawn=s.drawn) (h8:s'.os=s.os)
  (h9:∀k∈C.kpost (js.map (adF σ.ad σ.N)) ν,(k.map (·.1)).Nodup∧∀p∈k,s'.heap.get? p.1=some p.2∧s.heap.objs.size≤p.1∧p.1∉nuFrom ν 3 ns) :
  FRep V s₀ (σ.sCtr C ks fo c cs' (js.map (adF σ.ad σ.N)) os ns T' ν) s':=by
 have hjs:=(yG D hg).2
 have hsz:=D.size
 have hlo:=D.lo
 have hbase:=D.base
 have off:∀a,a∉V.own→a<V.n0→a∉js.map (adF σ.ad σ.N):=λa h1 h2 hm=>by
  obtain ⟨j,hj,rfl⟩:=I6.mp hm
  rcases (D.adr O (hjs j hj)).2 with h | h
  ·exact h1 h
  ·lia
 have inj:∀i j,adF σ.ad σ.N i=adF σ.ad σ.N j→i=j:=λi j e=>vT D.nodup D.low e
 refine {size := ?_,lo := ?_,nodup := ?_,low := ?_,own := ?_,far := ?_,base := ?_,kt := ?_,keep := ?_,toks := ?_,gsz := ?_,gens := ?_,ginj:=D.ginj,gfar:=D.gfar,gkeep := ?_,gbase := ?_,bare:=h6,drawn:=h7.trans D.drawn,os:=h8.trans D.os,fz := ?_}
 ·show s'.heap.objs.size+(adAll σ.ad σ.N σ.cnt (nuFrom ν 3 ns)).length=ν 0+(σ.cnt+vD ns)
  rw [qal,qb1,wn,h1]
 ·show (adAll σ.ad σ.N σ.cnt (nuFrom ν 3 ns)).length≤σ.cnt+vD ns
  rw [qal,qb1,wn]
  exact F4 _
 ·exact qa6 _ _ (λi j _ _ e=>inj i j e) nd λj hj hm=>by
   have:=(D.adr O hj).1
   have:=ge _ hm
   lia
 ·intro a ha
  show a<ν 0
  rcases qah _ _ ha with ⟨j,hj,rfl⟩ | hm
  ·have:=(D.adr O hj).1
   lia
  ·obtain ⟨o,ho⟩:=hn.mem hm
   have hl:a<s'.heap.objs.size:=I0 ho
   lia
 ·intro j o e
  have e:T'.get j=some o:=e
  show j<σ.cnt+vD ns∧s'.heap.get? (adF (adAll σ.ad σ.N σ.cnt (nuFrom ν 3 ns)) (ν 0) j)=some o
  rw [qaz,wn]
  rcases y5 hT e with h | ⟨k,rfl,hk⟩
  ·obtain ⟨⟨o',ho'⟩,h⟩:=v5 hp h
   have hj:=(D.own j o' ho').1
   rw [if_pos hj]
   refine ⟨by lia,?_⟩
   rcases h with ⟨_,h⟩ | ⟨hm,h⟩
   ·exact h
   ·refine kp _ _ (D.own j o h).2 λhm' => ?_
    obtain ⟨i,hi,e⟩:=I6.mp hm'
    exact hm (inj _ _ e▸hi)
  ·rw [if_neg (by lia),show σ.cnt+k-σ.cnt=k by lia]
   have z:=hn.at (N:=ν 0) hk
   rw [qb1] at z
   exact ⟨by lia,z.2⟩
 ·intro a ha
  rcases qah _ _ ha with ⟨j,hj,rfl⟩ | hm
  ·exact (D.adr O hj).2
  ·have:=ge _ hm
   exact .inr (by lia)
 ·show V.n0≤ν 0
  lia
 ·intro a o e
  exact kp a o (D.kt a o e) (off a (O.ktOff a o e).1 (O.ktOff a o e).2)
 ·intro b o e hb
  exact kp b o (D.keep b o e hb) (off b hb (by rw [←O.size];exact I0 e))
 ·exact h2
 ·exact h3
 ·intro j x hx
  have z:=D.gens j x hx
  rw [h5 x.1 (L3.mp z).1]
  exact z
 ·intro i hi hn'
  have z1:=D.gsz
  have z2:=D.gbase
  rw [h5 i (by lia)]
  exact D.gkeep i hi hn'
 ·show V.g0≤ν 2
  have z1:=D.gsz
  have z2:=D.gbase
  lia
 ·intro k hk
  have hk:k∈σ.fz++C.kpost (js.map (adF σ.ad σ.N)) ν:=hk
  have hlow:∀a∈nuFrom ν 3 ns,a<ν 0:=λa ha=>by
   obtain ⟨o,ho⟩:=hn.mem ha
   have hl:a<s'.heap.objs.size:=I0 ho
   lia
  have key:∀j o,T'.get j=some o→(∃o',σ.T.get j=some o'∧adF (adAll σ.ad σ.N σ.cnt (nuFrom ν 3 ns)) (ν 0) j=adF σ.ad σ.N j)∨adF (adAll σ.ad σ.N σ.cnt (nuFrom ν 3 ns)) (ν 0) j∈nuFrom ν 3 ns:=λj o e=>by
   rw [qaz]
   rcases y5 hT e with h | ⟨i,rfl,hi⟩
   ·obtain ⟨⟨o',ho'⟩,_⟩:=v5 hp h
    rw [if_pos (D.own j o' ho').1]
    exact .inl ⟨o',ho',rfl⟩
   ·rw [if_neg (by lia),show σ.cnt+i-σ.cnt=i by lia]
    have z:=hn.at (N:=ν 0) hi
    exact .inr (vj hlow z.1).2
  rcases I1.mp hk with hk | hk
  ·obtain ⟨q1,q2⟩:=D.fz k hk
   refine ⟨q1,λp hp' => ?_⟩
   obtain ⟨g1,g2,g3⟩:=q2 p hp'
   have hsz1:p.1<s.heap.objs.size:=I0 g1
   refine ⟨kp _ _ g1 λhm => ?_,λj o e => ?_,g3⟩
   ·obtain ⟨j,hj,e⟩:=I6.mp hm
    obtain ⟨o,ho⟩:=ut hg hj
    exact g2 j o ho e
   ·show adF (adAll σ.ad σ.N σ.cnt (nuFrom ν 3 ns)) (ν 0) j≠p.1
    rcases key j o e with ⟨o',ho',e'⟩ | hm
    ·rw [e'];exact g2 j o' ho'
    ·have:=ge _ hm
     lia
  ·obtain ⟨q1,q2⟩:=h9 k hk
   refine ⟨q1,λp hp' => ?_⟩
   obtain ⟨g1,g2,g3⟩:=q2 p hp'
   refine ⟨g1,λj o e => ?_,?_⟩
   ·show adF (adAll σ.ad σ.N σ.cnt (nuFrom ν 3 ns)) (ν 0) j≠p.1
    rcases key j o e with ⟨o',ho',e'⟩ | hm
    ·rw [e']
     have hl:adF σ.ad σ.N j<s.heap.objs.size:=I0 (D.own j o' ho').2
     exact λq=>absurd (q▸hl) (L9.mpr g2)
    ·exact λq=>g3 (q▸hm)
   ·cases hkt:V.kt p.1 with
    | none=>rfl
    | some o =>
     have hl:p.1<s.heap.objs.size:=I0 (D.kt _ _ hkt)
     exact absurd hl (L9.mpr g2)
end
end
section
open Sem (wp)
theorem jY {p:Prop} [Decidable p] {a:p→Nat} {b:¬p→Nat} (h1:∀h,a h≤3) (h2:∀h,b h≤3):dite p a b≤3:=by
 by_cases h:p
 ·rw [dif_pos h];exact h1 h
 ·rw [dif_neg h];exact h2 h
theorem qgw (b:Bool):(if b=true then 1 else 0)≤3:=by cases b <;> decide
theorem qlz (id:String) (args:Args):(Code.builtin id args).frames≤3:=by
 delta Code.frames Code.frames.match_1
 show dite _ _ _≤3
 exact jY (λh=>by cases h;exact I2 rfl) λ_=>jY (λh=>by cases h;exact I2 rfl) λ_=>jY (λh=>by cases h;exact I2 rfl) λ_=>jY (λh=>by cases h;exact I2 rfl) λ_=>jY (λh=>by cases h;exact I2 rfl) λ_=>jY (λh=>by cases h;exact I2 rfl) λ_=>jY (λh=>by cases h;exact I2 rfl) λ_=>jY (λh=>by cases h;exact I2 rfl) λ_=>jY (λh=>by cases h;exact I2 rfl) λ_=>qgw _
theorem qcd (c:Code):c.frames≤3:=by
 cases c with
 | builtin id args=>exact qlz id args
 | _ =>
  delta Code.frames Code.frames.match_1
  exact qgw (Code.isFrame _)
theorem qoL {p:Prop} [Decidable p] {a:p→Bool} {b:¬p→Bool} (h2:∀h,b h=false) (h:dite p a b=true):p:=by
 by_cases q:p
 ·exact q
 ·rw [dif_neg q,h2 q] at h
  exact J1 h
theorem qdf {c:Code} (h:c.isCaller=true):∃a,c = .builtin "claim.caller" a:=by
 cases c with
 | builtin id args =>
  delta Code.isCaller Code.isCaller.match_1 at h
  have h:dite (id="claim.caller") _ _=true:=h
  exact ⟨args,by rw [qoL (λ_=>rfl) h]⟩
 | _=>exact J1 h
theorem qfT (c:Code):c.cUnits≤10:=by
 have h:=qcd c
 cases c with
 | builtin=>exact L5 (Q6 3 h) 1
 | call=>exact (by decide:1≤10)
 | _=>exact E7 (Q6 3 h) (by decide)
theorem qgx (b:Bool):(if b=true then 1 else 0)≤1:=by cases b <;> decide
theorem jQ (c:Code) (hk:c.isCaller=false):c.weight≤5∧c.cUnits≤10:=by
 refine ⟨?_,qfT c⟩
 unfold Code.weight
 rw [hk]
 exact F1 (F1 (F1 (qcd c) (qgx _)) (qgx _)) (F4 0)
theorem qdq {k a b c n:Nat} (h:a≤b+k*n) (h':c≤k):a+c≤b+k*(n+1):=by
 rw [R0,←M9]
 exact F1 h h'
theorem qiE {k a b c d n m:Nat} (h:a≤b+k*n) (h':c≤k) (hd:d≤k*m):a+d+c≤b+k*(n+m+1):=by
 rw [R0,Nat.mul_add,←M9,←M9]
 exact F1 (F1 h hd) h'
theorem qoQ {a b n lev L:Nat} (h:a≤b+5*n) (hn:n<24) (hl:b+130*(lev+1)<L):a+10<L:=by lia
theorem qoP {a b n lev L:Nat} (h:a≤b+10*n) (hn:n<24) (hl:b+260*(lev+1)<L):a+20<L:=by lia
theorem qoO {a b n lev L:Nat} (h:a≤b+5*n) (hn:n<24) (hl:b+130*(lev+1)<L):a+130*lev<L:=by lia
theorem qoN {a b n lev L:Nat} (h:a≤b+10*n) (hn:n<24) (hl:b+260*(lev+1)<L):a+260*lev<L:=by lia
theorem qiF {k a c n:Nat} (h:a≤k*n) (h':c≤k):c+a≤k*(n+1):=by
 rw [R0,Nat.add_comm]
 exact F1 h h'
theorem qaS {c:Code} (h:qcw c=true):c.isCaller=false:=by
 cases c <;> first | rfl | cases h
theorem qeX {c:Code} (h:qb9 c=true):c.isCaller=false:=by
 cases c <;> first | rfl | cases h
noncomputable def qhn (fs:List Frame):Prop:=∀f∈fs,f.where_.1.isCaller=false
theorem qeF:∀{fs:List Frame},qdH fs=true→qhn fs
 | [],_=>λ_ h=>nomatch h
 | f::fs,h=>by
  unfold qdH at h
  split at h
  ·rename_i h1
   intro g hg
   rcases E2.mp hg with rfl | hg
   ·exact qaS h1
   ·exact qeF h g hg
  ·cases h
noncomputable def okK:FK→Prop
 | .base=>True
 | .ret c _ _ κ=>c.isCaller=false∧okK κ
 | .seg c fs _ _ κ=>c.isCaller=false∧qhn fs∧okK κ
 | .gen _ _ c _ κ=>c.isCaller=false∧okK κ
noncomputable def okM (c:Code) (md:Option (List Frame)):Prop:=c.isCaller=false∧match md with
 | none=>True
 | some fs=>qhn fs
theorem qdb:∀{fs:List Frame},qhn fs→frameCount (fs.map Frame.where_)≤5*fs.length∧unitsOf (fs.map Frame.where_)≤10*fs.length
 | [],_=>⟨F4 _,F4 _⟩
 | f::fs,h=>by
  have z:=qdb (fs:=fs) λg hg=>h g (.tail _ hg)
  have y:=jQ f.where_.1 (h f (.head _))
  exact ⟨qiF z.1 y.1,qiF z.2 y.2⟩
theorem qb6 {fz:List Key}:∀{is:List Nat} {ks:List Key} {k:Key},qb7 fz is=some ks→k∈ks→k∈fz
 | [],ks,k,e,h=>by cases e;cases h
 | i::is,ks,k,e,h=>by
  simp only [qb7] at e
  split at e
  ·rename_i k0 hk0
   split at e
   ·rename_i ks0 hks0
    cases e
    rcases E2.mp h with rfl | h
    ·exact qeU hk0
    ·exact qb6 hks0 h
   ·cases e
  ·cases e
theorem wJ {V:FV} {s₀ s:T2} {σ:FS} (D:FRep V s₀ σ s):∀{js:List Nat},js.Nodup→(js.map (adF σ.ad σ.N)).Nodup
 | [],_=>F8
 | j::js,h=>by
  rw [F3] at h
  refine F3.mpr ⟨λhm => ?_,wJ D h.2⟩
  obtain ⟨i,hi,e⟩:=I6.mp hm
  exact h.1 (vT D.nodup D.low e▸hi)
section
variable {F:FP} {prog:T6} {w:T3} {A₀:Around} {R₀:Result→T2→Prop} {s₀:T2}
theorem qax:∀{κ:FK},okK κ→(arK A₀ κ).depth≤A₀.depth+5*κ.len∧(arK A₀ κ).units≤A₀.units+10*κ.len
 | .base,_=>⟨F4 _,F4 _⟩
 | .ret c hd k κ,h=>have z:=qax (κ:=κ) h.2;have y:=jQ c h.1;⟨qdq z.1 y.1,qdq z.2 y.2⟩
 | .seg c fs hd k κ,h=>have z:=qax (κ:=κ) h.2.2;have y:=jQ c h.1;have x:=qdb h.2.1;⟨qiE z.1 y.1 x.1,qiE z.2 y.2 x.2⟩
 | .gen _ _ c k κ,h=>have z:=qax (κ:=κ) h.2;have y:=jQ c h.1;⟨qdq z.1 y.1,qdq z.2 y.2⟩
theorem vO (h0:A₀.handled=none):∀κ:FK,hdK κ=(arK A₀ κ).handled
 | .base=>h0.symm
 | .ret c hd k κ=>by show hd.or (hdK κ)=hd.or (arK A₀ κ).handled;rw [vO h0 κ]
 | .seg c fs hd k κ=>by show hd.or (marksOver fs (hdK κ,hdK κ)).1=hd.or (marksOver fs ((arK A₀ κ).handled,(arK A₀ κ).handled)).1;rw [vO h0 κ]
 | .gen _ _ c k κ=>vO h0 κ
structure qaD (F:FP) (prog:T6) (w:T3) (A₀:Around) (s₀:T2):Prop where
 hprog:F.V.prog=prog
 denS:F.denS=denote table
 denG:∀(A:Around) c s P,SegX (model prog w) A c (F.denG c) [] s P→SegX (model prog w) A c (denote table c) [] s P
 qt:F.qt=Code.quiet
 den:∀(A:Around) c Q E s,A.depth+10<U0→A.units+20<cLine→W prog w A c (F.den c) Q E s→wpOwn (model prog w) A c (denote table c) Q E s
 uns:∀a,∃x,F.den (.builtin "claim.caller" a) = .unsupported x
 hfr:∀l,F.V.fr=some l→A₀.frames=some l
noncomputable def GoodF (F:FP) (prog:T6) (w:T3) (A₀:Around) (R₀:Result→T2→Prop) (s₀:T2):FO→Prop
 | .done r σ=>FEq σ∧∀s,FRep F.V s₀ σ s→R₀ r s
 | .call c κ σ=>FEq σ∧∀s,FRep F.V s₀ σ s→codeAny (model prog w) (arK A₀ κ) c (endK prog w A₀ R₀ κ) s
 | .ctr f=>∀ν,GoodF F prog w A₀ R₀ s₀ (f ν)
 | .stk f=>∀p b,GoodF F prog w A₀ R₀ s₀ (f p b)
 | .pos f=>∀p,GoodF F prog w A₀ R₀ s₀ (f p)
 | .bad _ _=>False
theorem GoodF.t {b:Bool} {x:FO} {n:Nat} {t:Sem Fin} (H:GoodF F prog w A₀ R₀ s₀ (match b with | true=>x | false => .bad n t)):b=true∧GoodF F prog w A₀ R₀ s₀ x:=by
 cases b
 ·exact H.elim
 ·exact ⟨rfl,H⟩
theorem GoodF.f {b:Bool} {x:FO} {n:Nat} {t:Sem Fin} (H:GoodF F prog w A₀ R₀ s₀ (match b with | true => .bad n t | false=>x)):b=false∧GoodF F prog w A₀ R₀ s₀ x:=by
 cases b
 ·exact ⟨rfl,H⟩
 ·exact H.elim
theorem GoodF.o {o:Option Obj} {x:Obj→FO} {n:Nat} {t:Sem Fin} (H:GoodF F prog w A₀ R₀ s₀ (match o with | some o=>x o | none => .bad n t)):∃a,o=some a∧GoodF F prog w A₀ R₀ s₀ (x a):=by
 cases o
 ·exact H.elim
 ·exact ⟨_,rfl,H⟩
theorem GoodF.g {o:Option (Nat×GenState)} {x:Nat×GenState→FO} {n:Nat} {t:Sem Fin} (H:GoodF F prog w A₀ R₀ s₀ (match o with | some o=>x o | none => .bad n t)):∃a,o=some a∧GoodF F prog w A₀ R₀ s₀ (x a):=by
 cases o
 ·exact H.elim
 ·exact ⟨_,rfl,H⟩
theorem GoodF.h {l:List Nat} {x:Nat→List Nat→FO} {n:Nat} {t:Sem Fin} (H:GoodF F prog w A₀ R₀ s₀ (match l with | [] => .bad n t | h::hs=>x h hs)):∃h hs,GoodF F prog w A₀ R₀ s₀ (x h hs):=by
 cases l
 ·exact H.elim
 ·exact ⟨_,_,H⟩
theorem qkb (P:qaD F prog w A₀ s₀) {c:Code} (h:qhP (F.den c)=false):c.isCaller=false:=by
 cases hc:c.isCaller with
 | false=>rfl
 | true =>
  obtain ⟨a,rfl⟩:=qdf hc
  obtain ⟨x,e⟩:=P.uns a
  rw [e] at h
  exact J1 h
variable (ih:FI) (P:qaD F prog w A₀ s₀) (O:FOk F.V w s₀) (h0:A₀.handled=none) {lev:Nat} (hd0:A₀.depth+130*(lev+1)<U0) (hu0:A₀.units+260*(lev+1)<cLine)
 (IH:∀c md κ t σ,okM c md→okK κ→AllValid prog w F.V.kt lev σ.cs→GoodF F prog w A₀ R₀ s₀ (ih c md κ t σ)→FEq σ∧∀s,FRep F.V s₀ σ s→MeansF prog w A₀ R₀ c md κ t s)
theorem qa7 (tb:String→Option Builtin) (id:String) (args:Args):denote tb (.builtin id args)=(match entryFor tb id with | some b=>b args | none => .unsupported ((withoutEnding? id "#data").getD id)):=(rfl)
theorem qlM {tb:String→Option Builtin} {id:String} {args:Args} (h:entryFor tb id=none):denote tb (.builtin id args) = .unsupported ((withoutEnding? id "#data").getD id):=by rw [qa7,h]
theorem uB {tb:String→Option Builtin} {id:String} {args:Args} {b:Builtin} (h:entryFor tb id=some b):denote tb (.builtin id args)=b args:=by rw [qa7,h]
theorem qhm:entryFor treeTable vr=some Builtin.«posix.ScandirIterator.__iter__»:=by kernel_rfl
theorem qju:entryFor table vr=some Builtin.«posix.ScandirIterator.__iter__»:=by rw [table_eq_tree];exact qhm
theorem qgd (x:T1) (kw):denote table (.builtin vr ⟨[x],kw⟩) = .pure (.done (.ret x)):=(uB qju).trans rfl
theorem vL {α:Type} {x:α} {P:Prop} (h:none=some x):P:=nomatch h
theorem qp6 {c:Code} {x:T1} (h:qdG c=some x):∃kw,c = .builtin vr ⟨[x],kw⟩:=by
 cases c with
 | builtin id args =>
  obtain ⟨ps,kw⟩:=args
  cases kw with
  | nil=>exact vL h
  | cons k kw =>
   cases ps with
   | nil=>exact vL h
   | cons y ps =>
    cases ps with
    | cons=>exact vL h
    | nil =>
     have h:(match decide (id=vr) with
      | true=>some y
      | false=>none)=some x:=h
     cases hd:decide (id=vr) with
     | false =>
      rw [hd] at h
      exact vL h
     | true =>
      rw [hd] at h
      exact ⟨k::kw,by rw [of_decide_eq_true hd,Option.some.inj h]⟩
 | _=>exact vL h
theorem qgm {C:Ctr} {fo:Option (List Env)} {ads:List Nat} {l:List Prop} {P:Prop} (h:P∈l):P∈frq C fo ads l:=by
 unfold frq
 split
 ·exact h
 ·exact .tail _ h
include IH in
theorem uL {r:Result} {κ:FK} {σ:FS} (hk:okK κ) (hv:AllValid prog w F.V.kt lev σ.cs) (H:GoodF F prog w A₀ R₀ s₀ (qa0 ih r κ σ)):FEq σ∧∀s,FRep F.V s₀ σ s→endK prog w A₀ R₀ κ r s:=by
 cases κ with
 | base =>
  refine ⟨H.1,λs D => ?_⟩
  exact H.2 s D
 | ret c hd k κ =>
  have z:=IH c none κ (k r) σ ⟨hk.1,trivial⟩ hk.2 hv H
  refine ⟨z.1,λs D => ?_⟩
  exact z.2 s D
 | seg c fs hd k κ =>
  have z:=IH c (some fs) κ (k r) σ ⟨hk.1,hk.2.1⟩ hk.2.2 hv H
  refine ⟨z.1,λs D => ?_⟩
  exact z.2 s D
 | gen=>exact H.elim
include IH in
theorem qbF {e:End} {κ:FK} {σ:FS} (hk:okK κ) (hv:AllValid prog w F.V.kt lev σ.cs) (he:e.genState.bare=true) (H:GoodF F prog w A₀ R₀ s₀ (qgE ih e κ σ)):FEq σ∧∀s,FRep F.V s₀ σ s→wakeK prog w A₀ R₀ κ e s:=by
 cases κ with
 | base=>exact H.elim
 | ret=>exact H.elim
 | seg=>exact H.elim
 | gen j g c k κ =>
  have H:GoodF F prog w A₀ R₀ s₀ (match lGet σ.gl j with
   | some z=>ih c none κ (k e.result) (σ.sWake (g,z.1) j e.genState)
   | none => .bad 16 (.unsupported "")):=H
  cases hz:lGet σ.gl j with
  | none =>
   rw [hz] at H
   exact H.elim
  | some z =>
   rw [hz] at H
   have y:=IH c none κ (k e.result) (σ.sWake (g,z.1) j e.genState) ⟨hk.1,trivial⟩ hk.2 hv H
   refine ⟨⟨λp hp=>y.1.1 p (.tail _ hp),y.1.2⟩,λs D => ?_⟩
   have hg:g=z.1:=y.1.1 _ (.head _)
   show W prog w (arK A₀ κ) c (k e.result) (postC prog w (arK A₀ κ) (endK prog w A₀ R₀ κ)) (postE (endK prog w A₀ R₀ κ)) (s.setGen g e.genState)
   rw [hg]
   exact y.2 _ ((D.setGen hz _ he).eqs _ _ _ _ _)
include IH in
theorem qc2 {r:Result} {c:Code} {md:Option (List Frame)} {κ:FK} {σ:FS} {t:Sem Fin} (ht:t=leafOf r) (hm:okM c md) (hk:okK κ) (hv:AllValid prog w F.V.kt lev σ.cs) (H:GoodF F prog w A₀ R₀ s₀ (qkQ ih r md κ σ)) :
  FEq σ∧∀s,FRep F.V s₀ σ s→MeansF prog w A₀ R₀ c md κ t s:=by
 cases md with
 | none =>
  have key:FEq σ∧∀s,FRep F.V s₀ σ s→endK prog w A₀ R₀ κ r s:=by
   exact uL ih IH hk hv H
  refine ⟨key.1,λs D => ?_⟩
  cases r with
  | ok f=>subst ht;exact key.2 s D
  | error e=>subst ht;exact key.2 s D
 | some fs =>
  cases fs with
  | nil =>
   have z:=qbF ih IH (e := .ret r) hk hv rfl H
   exact ⟨z.1,λs D=>s_end _ _ _ _ _ s r t ht (z.2 s D)⟩
  | cons f fs =>
   cases f with
   | ret k hd g l c₁ p₁ kp =>
    have z:=IH c₁ (some fs) κ (k r) σ ⟨hm.2 _ (.head _),λf hf=>hm.2 f (.tail _ hf)⟩ hk hv H
    exact ⟨z.1,λs D=>s_pop _ _ _ _ _ _ s r t ht k hd g l c₁ p₁ kp (z.2 s D)⟩
   | gen=>exact H.elim
include P IH hd0 hu0 in
theorem qda {c:Code} {κ:FK} {σ:FS} (hk:okK κ) (hv:AllValid prog w F.V.kt lev σ.cs) (hb:κ.len<24) (H:GoodF F prog w A₀ R₀ s₀ (goR F ih c κ σ)):FEq σ∧∀s,FRep F.V s₀ σ s→codeAny (model prog w) (arK A₀ κ) c (endK prog w A₀ R₀ κ) s:=by
 have hl:=qax (A₀:=A₀) hk
 unfold goR at H
 cases hu:qhP (F.den c) with
 | true =>
  rw [hu] at H
  exact H.elim
 | false =>
  rw [hu] at H
  have z:=IH c none κ (F.den c) σ ⟨qkb P hu,trivial⟩ hk hv H
  exact ⟨z.1,λs D=>y_code _ _ _ _ _ _ (P.den (arK A₀ κ) c _ _ _ (qoQ hl.1 hb hd0) (qoP hl.2 hb hu0) (z.2 s D))⟩
include P O IH h0 hd0 hu0 in
theorem qfW {C':Code→List Obj→Ctr} {js zs:List Nat} {cs':List CH} {c:Code} {κ:FK} {σ:FS} {t:Sem Fin} (hk:okK κ) (hv:AllValid prog w F.V.kt lev cs') (hC':∀c os,Valid prog w F.V.kt lev (C' c os)) (hb:κ.len<24) (hn:isNone (hdK κ)=true) (H:GoodF F prog w A₀ R₀ s₀ (qfB F.V.fr zs ih C' js cs' c κ σ t)) :
  FEq σ∧∀s,FRep F.V s₀ σ s→codeAny (model prog w) (arK A₀ κ) c (endK prog w A₀ R₀ κ) s:=by
 have hl:=qax (A₀:=A₀) hk
 unfold qfB at H
 split at H
 ·exact H.elim
 ·rename_i os hos
  have hC:=hC' c os
  generalize C' c os=C at H hC
  split at H
  ·exact H.elim
  rename_i hap
  split at H
  ·exact H.elim
  ·rename_i ks hks
   have key:∀ν,∃T',insAll (setAll σ.T js (C.post (js.map (adF σ.ad σ.N)) ν)) σ.cnt (C.news (js.map (adF σ.ad σ.N)) ν)=some T'∧
     FEq (σ.sCtr C ks (framesF F.V.fr κ) c cs' (js.map (adF σ.ad σ.N)) os (C.news (js.map (adF σ.ad σ.N)) ν) T' ν)∧∀s,FRep F.V s₀ (σ.sCtr C ks (framesF F.V.fr κ) c cs' (js.map (adF σ.ad σ.N)) os (C.news (js.map (adF σ.ad σ.N)) ν) T' ν) s→After prog w (arK A₀ κ) (endK prog w A₀ R₀ κ) s (C.res (js.map (adF σ.ad σ.N)) ν):=by
    intro ν
    have z:GoodF F prog w A₀ R₀ s₀ (match insAll (setAll σ.T js (C.post (js.map (adF σ.ad σ.N)) ν)) σ.cnt (C.news (js.map (adF σ.ad σ.N)) ν) with
     | some T'=>match C.res (js.map (adF σ.ad σ.N)) ν with
      | .done r=>qa0 ih r κ (σ.sCtr C ks (framesF F.V.fr κ) c cs' (js.map (adF σ.ad σ.N)) os (C.news (js.map (adF σ.ad σ.N)) ν) T' ν)
      | .go c'=>match qcw c' with
       | true=>ih c' none κ (.pure (.again c')) (σ.sCtr C ks (framesF F.V.fr κ) c cs' (js.map (adF σ.ad σ.N)) os (C.news (js.map (adF σ.ad σ.N)) ν) T' ν)
       | false => .bad 34 t
     | none => .bad 33 t):=H ν
    split at z
    ·rename_i T' hT
     refine ⟨T',hT,?_⟩
     split at z
     ·rename_i r hr
      rw [hr]
      exact uL ih IH hk hv z
     ·rename_i c' hr
      rw [hr]
      split at z
      ·rename_i hb
       have y:=IH c' none κ (.pure (.again c')) _ ⟨qaS hb,trivial⟩ hk (by exact hv) z
       exact ⟨y.1,λs D=>(y.2 s D).2⟩
      ·exact z.elim
    ·exact z.elim
   obtain ⟨T0,hT0,e0,_⟩:=key λ_=>0
   refine ⟨⟨λp hp=>e0.1 p (J0 _ hp),e0.2.1,λp hp=>e0.2.2.1 p (.tail _ hp),λp hp=>e0.2.2.2.1 p (.tail _ hp),e0.2.2.2.2.1,λp hp=>e0.2.2.2.2.2.1 p (by show p∈qeV C ks σ.kqs;unfold qeV;split;exact .tail _ hp;exact hp),λP hP=>e0.2.2.2.2.2.2 P (qgm (by unfold qgL;split;exact hP;exact .tail _ hP))⟩,λs D => ?_⟩
   have eo:os=C.pre (js.map (adF σ.ad σ.N)):=e0.2.2.1 _ (.head _)
   have ec:c=C.code (js.map (adF σ.ad σ.N)):=e0.2.2.2.1 _ (.head _)
   have hob:=yG D hos
   have hh:(arK A₀ κ).handled=none:=by
    rw [←vO h0 κ]
    cases e:hdK κ with
    | none=>rfl
    | some v=>rw [e] at hn;cases hn
   have nd:(js.map (adF σ.ad σ.N)).Nodup:=wJ D (qa8 hap)
   rw [ec]
   refine hC (arK A₀ κ) (js.map (adF σ.ad σ.N)) s (endK prog w A₀ R₀ κ) hh (qoO hl.1 hb hd0) (qoN hl.2 hb hu0) D.kt ?_ nd (λa ha => ?_) (eo▸hob.1) ?_ D.bare ?_
   ·have hk0:∀p∈C.ok (js.map (adF σ.ad σ.N)),p.1=p.2:=λp hp=>e0.1 p (I5 _ hp)
    unfold OkA
    cases hf:C.frs with
    | none=>exact hk0
    | some f=>exact ⟨qco P.hfr κ _ (e0.2.2.2.2.2.2 (framesF F.V.fr κ=some (f (js.map (adF σ.ad σ.N)))) (by show _∈frq C _ _ _;unfold frq;rw [hf];exact .head _)),hk0⟩
   ·obtain ⟨j,hj,rfl⟩:=I6.mp ha
    cases e:F.V.kt (adF σ.ad σ.N j) with
    | none=>rfl
    | some o =>
     have z:=O.ktOff _ o e
     rcases (D.adr O (hob.2 j hj)).2 with h | h
     ·exact absurd h z.1
     ·exact absurd (R1 z.2 h) (Nat.lt_irrefl _)
   ·have hks':∀k∈ks,KeyOk F.V.kt (js.map (adF σ.ad σ.N)) s.heap k:=λk hk'=>by
     have hin:=qb6 hks hk'
     have z:=D.fz k hin
     refine ⟨z.1,λp hp=>⟨(z.2 p hp).1,λhm => ?_,(z.2 p hp).2.2⟩⟩
     obtain ⟨j,hj,e⟩:=I6.mp hm
     obtain ⟨o,ho⟩:=ut hos hj
     exact (z.2 p hp).2.1 j o ho e
    unfold FrzOk
    cases hfs:C.fside with
    | none =>
     have ek:ks=C.frz:=e0.2.2.2.2.2.1 (ks,C.frz) (by show _∈qeV C ks σ.kqs;unfold qeV;rw [hfs];exact .head _)
     exact λk hk'=>hks' k (ek▸hk')
    | some P=>exact ⟨ks,e0.2.2.2.2.2.2 (P ks) (qgm (by unfold qgL;rw [hfs];exact .head _)),hks'⟩
   ·intro ν s' p
    obtain ⟨T',hT',_,z⟩:=key ν
    exact z s' (D.ctr O hos hT' p.post p.news p.nodup p.ge p.keep p.le0 p.sz p.tk p.gs p.le2 p.gk p.bare p.dr p.os p.kp)
include P O IH h0 hd0 hu0 in
theorem qar {c:Code} {κ:FK} {σ:FS} (hk:okK κ) (hv:AllValid prog w F.V.kt lev σ.cs) (H:GoodF F prog w A₀ R₀ s₀ (goF F ih c κ σ)):FEq σ∧∀s,FRep F.V s₀ σ s→codeAny (model prog w) (arK A₀ κ) c (endK prog w A₀ R₀ κ) s:=by
 unfold goF at H
 split at H
 ·rename_i hb
  have hb':κ.len<24:=I2 hb
  split at H
  ·exact qda ih P hd0 hu0 IH hk hv hb' H
  ·rename_i h t hcs
   have hvt:AllValid prog w F.V.kt lev t:=λg hg=>hv g (hcs▸ .tail _ hg)
   split at H
   ·split at H
    ·exact ⟨H.1,λs D=>H.2 s (D.eqs _ _ _ _ _)⟩
    ·rename_i x hx
     split at H
     ·rename_i hn
      exact qfW ih P O h0 hd0 hu0 IH hk hvt (hv h (hcs▸ .head _) x hx) hb' hn H
     ·exact H.elim
   ·rename_i m hm
    have hv':AllValid prog w F.V.kt lev (⟨m,h.c,h.z⟩::t):=λg hg=>by
     rcases E2.mp hg with rfl | hg
     ·exact λx hx=>hv h (hcs▸ .head _) x hx
     ·exact hvt g hg
    have z:=qda ih P hd0 hu0 IH hk (σ:=σ.sCs (⟨m,h.c,h.z⟩::t)) hv' hb' H
    exact ⟨z.1,λs D=>z.2 s (D.eqs _ _ _ _ _)⟩
 ·exact H.elim
theorem qbr {α:Type} {c:Code} {fs:List Frame} {κ:FK} {s:T2} {m:Sem α} {k:α→Sem Fin} (h:wpAny (model prog w) (arC A₀ (some fs) κ c) m (λa s'=>MeansF prog w A₀ R₀ c (some fs) κ (k a) s') (λ_ _=>False) s) :
  MeansF prog w A₀ R₀ c (some fs) κ (m.wrap k .raise id id) s:=s_cmd _ _ _ _ _ _ (wpAny_mono h (λ_ _ x=>x) λ_ _ x=>x.elim)
end
end
section
open Sem (wp)
section
variable {F:FP} {prog:T6} {w:T3} {A₀:Around} {R₀:Result→T2→Prop} {s₀:T2}
 (ih:FI) (P:qaD F prog w A₀ s₀) (O:FOk F.V w s₀) (h0:A₀.handled=none) {lev:Nat} (hd0:A₀.depth+130*(lev+1)<U0) (hu0:A₀.units+260*(lev+1)<cLine)
 (IH:∀c md κ t σ,okM c md→okK κ→AllValid prog w F.V.kt lev σ.cs→GoodF F prog w A₀ R₀ s₀ (ih c md κ t σ)→FEq σ∧∀s,FRep F.V s₀ σ s→MeansF prog w A₀ R₀ c md κ t s)
theorem B4 {σ:FS} {p:Nat×Nat} {hs:List Nat} {T:BT} {gl:List (Nat×GenState)} (h:FEq {σ with T:=T,gl:=gl,hs:=hs,eqs:=p::σ.eqs}):p.1=p.2∧FEq σ:=⟨h.1 p (.head _),λq hq=>h.1 q (.tail _ hq),h.2⟩
include IH in
theorem qb0 {c:Code} {md:Option (List Frame)} {κ:FK} {σ:FS} {a:Addr} {k:Obj→Sem Fin} {t:Sem Fin} (hm:okM c md) (hk:okK κ) (hv:AllValid prog w F.V.kt lev σ.cs) (H:GoodF F prog w A₀ R₀ s₀ (qhE F ih c md κ σ a k t)) :
  FEq σ∧∀s,FRep F.V s₀ σ s→∃o,s.heap.get? a=some o∧MeansF prog w A₀ R₀ c md κ (k o) s:=by
 obtain ⟨h,hs,H⟩:=H.h
 cases h with
 | zero =>
  obtain ⟨o,ho,H⟩:=H.o
  have z:=IH _ _ _ _ _ hm hk (by exact hv) H
  exact ⟨z.1,λs D=>⟨o,D.kt a o ho,z.2 s (D.eqs _ _ _ _ _)⟩⟩
 | succ j =>
  obtain ⟨o,ho,H⟩:=H.o
  have z:=IH _ _ _ _ _ hm hk (by exact hv) H
  have e:=B4 z.1
  exact ⟨e.2,λs D=>⟨o,by rw [show a=_ from e.1];exact (D.own _ _ ho).2,z.2 s (D.eqs _ _ _ _ _)⟩⟩
include O IH in
theorem qiq {c:Code} {md:Option (List Frame)} {κ:FK} {σ:FS} {a:Addr} {q:Option T1} {f:Obj→Obj} {k:Unit→Sem Fin} {t:Sem Fin} (hm:okM c md) (hk:okK κ) (hv:AllValid prog w F.V.kt lev σ.cs) (H:GoodF F prog w A₀ R₀ s₀ (qpi ih c md κ σ a f k t)) :
  FEq σ∧∀s,FRep F.V s₀ σ s→MeansF prog w A₀ R₀ c md κ (.update a q f k) s:=by
 obtain ⟨h,hs,H⟩:=H.h
 cases h with
 | zero=>exact H.elim
 | succ j =>
  obtain ⟨o,ho,H⟩:=H.o
  obtain ⟨hf,H⟩:=H.f
  have z:=IH _ _ _ _ _ hm hk (by exact hv) H
  have e:=B4 z.1
  refine ⟨e.2,λs D => ?_⟩
  have ea:a=adF σ.ad σ.N _:=e.1
  have y:=z.2 _ ((D.update O ho hf).eqs ((a,_)::σ.eqs) σ.vqs _ σ.ih σ.cs)
  rw [←ea] at y
  have ho':s.heap.get? a=some o:=by rw [ea];exact (D.own _ _ ho).2
  cases md with
  | none=>exact ⟨⟨o,ho'⟩,y⟩
  | some fs=>exact qbr (m:=updatePart a q f) (k:=k) (wpAny_updatePart (o:=o) ho' y)
include IH in
theorem qfX {c:Code} {md:Option (List Frame)} {κ:FK} {σ:FS} {o:Obj} {k:Addr→Sem Fin} {t:Sem Fin} (hm:okM c md) (hk:okK κ) (hv:AllValid prog w F.V.kt lev σ.cs) (H:GoodF F prog w A₀ R₀ s₀ (qkk ih c md κ σ o k t)) :
  FEq σ∧∀s,FRep F.V s₀ σ s→MeansF prog w A₀ R₀ c md κ (.alloc o k) s:=by
 obtain ⟨hf,H⟩:=H.f
 obtain ⟨o',e,H⟩:=H.o
 have z:=IH _ _ _ _ _ hm hk (by exact hv) H
 refine ⟨z.1,λs D => ?_⟩
 obtain ⟨ha,D'⟩:=D.alloc hf (by rw [e];rfl)
 have y:=z.2 _ D'
 rw [ha] at y
 cases md with
 | none=>exact y
 | some fs=>exact qbr (m:=alloc o) (k:=k) (wpAny_alloc y)
include P O h0 hd0 hu0 IH in
theorem qfZ {c c':Code} {md:Option (List Frame)} {κ:FK} {σ:FS} {t:Sem Fin} (hm:okM c md) (hk:okK κ) (hv:AllValid prog w F.V.kt lev σ.cs) (H:GoodF F prog w A₀ R₀ s₀ (qkm F ih md κ c' t σ)) :
  FEq σ∧∀s,FRep F.V s₀ σ s→MeansF prog w A₀ R₀ c md κ (.pure (.again c')) s:=by
 obtain ⟨hq,H⟩:=H.t
 rw [P.qt] at hq
 cases md with
 | none =>
  have z:=qar ih P O h0 hd0 hu0 IH hk hv H
  exact ⟨z.1,λs D=>⟨hq,z.2 s D⟩⟩
 | some fs =>
  obtain ⟨hsg,H⟩:=H.t
  have z:=IH c' (some fs) κ _ σ ⟨qeX hsg,hm.2⟩ hk hv H
  rw [P.denS] at z
  exact ⟨z.1,λs D=>s_again _ _ _ _ _ _ _ _ hq (z.2 s D)⟩
include IH in
theorem qjt {c:Code} {κ:FK} {σ:FS} {x:T1} {k:Result→Sem Fin} (hm:okM c none) (hk:okK κ) (hv:AllValid prog w F.V.kt lev σ.cs) (H:GoodF F prog w A₀ R₀ s₀ (ih c none κ (k (.ok (.ret (qbn σ x).1))) (qbn σ x).2)) :
  FEq σ∧∀s,FRep F.V s₀ σ s→MeansF prog w A₀ R₀ c none κ (k (.ok (.ret x))) s:=by
 unfold qbn at H
 cases hi:σ.ih with
 | nil =>
  rw [hi] at H
  exact IH _ _ _ _ _ hm hk (by exact hv) H
 | cons h t =>
  rw [hi] at H
  obtain ⟨n,v⟩:=h
  cases n with
  | zero =>
   have z:=IH _ _ _ _ _ hm hk (by exact hv) H
   refine ⟨⟨z.1.1,λp hp=>z.1.2.1 p (.tail _ hp),z.1.2.2⟩,λs D => ?_⟩
   have e:x=_:=z.1.2.1 _ (.head _)
   rw [e]
   exact z.2 s (D.eqs _ _ _ _ _)
  | succ n =>
   have z:=IH _ _ _ _ _ hm hk (by exact hv) H
   exact ⟨z.1,λs D=>z.2 s (D.eqs _ _ _ _ _)⟩
include P O h0 hd0 hu0 IH in
theorem qig {c c':Code} {md:Option (List Frame)} {κ:FK} {σ:FS} {hd:Option T1} {g:Bool} {l:List T1} {k:Result→Sem Fin} (hm:okM c md) (hk:okK κ) (hv:AllValid prog w F.V.kt lev σ.cs) (hnb:hd≠some byPass) (H:GoodF F prog w A₀ R₀ s₀ (qih F ih c md κ σ c' hd g l k)) :
  FEq σ∧∀s,FRep F.V s₀ σ s→MeansF prog w A₀ R₀ c md κ (.call c' hd g l k) s:=by
 cases md with
 | none =>
  have H:GoodF F prog w A₀ R₀ s₀ (match qdG c' with
   | some x=>ih c none κ (k (.ok (.ret (qbn σ x).1))) (qbn σ x).2
   | none=>goF F ih c' (.ret c hd k κ) σ):=H
  cases hx:qdG c' with
  | some x =>
   rw [hx] at H
   obtain ⟨kw,rfl⟩:=qp6 hx
   have key:=qjt ih IH hm hk hv H
   refine ⟨key.1,λs D=>⟨hnb,y_code _ _ _ _ _ _ ?_⟩⟩
   rw [qgd]
   exact y_pure _ _ _ _ _ _ _ _ _ (y_done _ _ _ _ _ _ (key.2 s D))
  | none =>
   rw [hx] at H
   have z:=qar ih P O h0 hd0 hu0 IH (κ := .ret c hd k κ) ⟨hm.1,hk⟩ hv H
   exact ⟨z.1,λs D=>⟨hnb,codeAny_mono (z.2 s D) λr s' h'=>h'⟩⟩
 | some fs =>
  have H:GoodF F prog w A₀ R₀ s₀ (match qb9 c' with
   | true => .pos λp=>ih c' (some (.ret k hd g l c p []::fs)) κ (F.denS c') σ
   | false=>goF F ih c' (.seg c fs hd k κ) σ):=H
  cases hsg:qb9 c' with
  | true =>
   rw [hsg] at H
   have z:∀p,_:=λp=>IH c' (some (.ret k hd g l c p []::fs)) κ _ σ ⟨qeX hsg,λf hf=>by
    rcases E2.mp hf with rfl | hf
    ·exact hm.1
    ·exact hm.2 f hf⟩ hk hv (H p)
   rw [P.denS] at z
   exact ⟨(z default).1,λs D=>s_call _ _ _ _ _ _ _ _ _ _ _ _ λp=>(z p).2 s D⟩
  | false =>
   rw [hsg] at H
   have z:=qar ih P O h0 hd0 hu0 IH (κ := .seg c fs hd k κ) ⟨hm.1,hm.2,hk⟩ hv H
   exact ⟨z.1,λs D=>s_cmd _ _ _ _ _ _ (m:=(.call c' hd g l .pure:Sem Result)) (k:=k) (x_call (codeAny_mono (z.2 s D) λr s' h'=>wpAny_pure h') hnb)⟩
include IH in
theorem qjT {c:Code} {md:Option (List Frame)} {κ:FK} {σ:FS} {g:Nat} {k:GenStatus×Option (List (Code×Pos))→Sem Fin} {t:Sem Fin} (hm:okM c md) (hk:okK κ) (hv:AllValid prog w F.V.kt lev σ.cs) (H:GoodF F prog w A₀ R₀ s₀ (qqU ih c md κ σ g k t)) :
  FEq σ∧∀s,FRep F.V s₀ σ s→MeansF prog w A₀ R₀ c md κ (.genState g k) s:=by
 obtain ⟨h,hs,H⟩:=H.h
 obtain ⟨x,hx,H⟩:=H.g
 have z:=IH _ _ _ _ _ hm hk (by exact hv) H
 have e:=B4 z.1
 refine ⟨e.2,λs D => ?_⟩
 have eg:g=x.1:=e.1
 have y:=z.2 s (D.eqs _ _ _ _ _)
 have hg:s.gens[g]? = some x.2:=by rw [eg];exact D.gens _ _ hx
 cases md with
 | none=>exact ⟨x.2,hg,y⟩
 | some fs=>exact s_genState _ _ _ _ _ _ _ _ _ x.2 hg y
include P IH in
theorem qi6 {c:Code} {κ:FK} {σ:FS} {g:Nat} {r:Resume} {l:List T1} {k:GenResult→Sem Fin} {t:Sem Fin} (hm:okM c none) (hk:okK κ) (hv:AllValid prog w F.V.kt lev σ.cs) (H:GoodF F prog w A₀ R₀ s₀ (qpY F ih c κ σ g r k t)) :
  FEq σ∧∀s,FRep F.V s₀ σ s→MeansF prog w A₀ R₀ c none κ (.resume g r l k) s:=by
 obtain ⟨h,hs,H⟩:=H.h
 obtain ⟨x,hx,H⟩:=H.g
 obtain ⟨xi,gs⟩:=x
 have hk':∀j,okK (.gen j g c k κ):=λ_=>⟨hm.1,hk⟩
 cases gs with
 | fresh c₀ =>
  cases r with
  | throw=>exact H.elim
  | send v =>
   cases v with
   | none =>
    obtain ⟨hb,H⟩:=H.t
    have z:=IH _ _ _ _ _ ⟨qaS hb,λf hf=>nomatch hf⟩ (hk' _) (by exact hv) H
    have e:=B4 z.1
    refine ⟨e.2,λs D => ?_⟩
    have eg:g=xi:=e.1
    have y:=z.2 _ ((D.setGen hx .running rfl).eqs _ _ _ _ _)
    subst eg
    exact .inl ⟨c₀,rfl,D.gens _ _ hx,P.denG _ _ _ _ (SegX.mono y λe s' h'=>h')⟩
   | _=>exact H.elim
 | suspended k₀ l₀ c₀ p₀ fs₀ cl =>
  obtain ⟨hb,H⟩:=H.t
  obtain ⟨hbs,H⟩:=H.t
  have z:=IH _ _ _ _ _ ⟨qaS hb,qeF hbs⟩ (hk' _) (by exact hv) H
  have e:=B4 z.1
  refine ⟨e.2,λs D => ?_⟩
  have eg:g=xi:=e.1
  have y:=z.2 _ ((D.setGen hx .running rfl).eqs _ _ _ _ _)
  subst eg
  exact .inr ⟨k₀,l₀,c₀,p₀,fs₀,cl,D.gens _ _ hx,SegX.mono y λe s' h'=>h'⟩
 | running=>exact H.elim
 | finished=>exact H.elim
include IH in
theorem qin {c:Code} {fs:List Frame} {κ:FK} {σ:FS} {v:T1} {l:List T1} {k:Resume→Sem Fin} {t:Sem Fin} (hk:okK κ) (hv:AllValid prog w F.V.kt lev σ.cs) (H:GoodF F prog w A₀ R₀ s₀ (qph ih c fs κ σ v l k t)) :
  FEq σ∧∀s,FRep F.V s₀ σ s→MeansF prog w A₀ R₀ c (some fs) κ (.yield v false l k) s:=by
 obtain ⟨hfs,H⟩:=H.t
 obtain ⟨hfg,H⟩:=H.f
 have z:∀p,_:=λp=>qbF ih IH (e := .susp v false l k c p fs) hk hv (by show (!(false||fs.any Frame.guarded))=true;rw [hfg];rfl) (H p)
 exact ⟨(z default).1,λs D=>s_yield _ _ _ _ _ _ _ _ _ _ (Option.isNone_iff_eq_none.mp hfs) hfg λp=>(z p).2 s D⟩
include P O h0 hd0 hu0 IH in
theorem qfI (c:Code) (md:Option (List Frame)) (κ:FK) (t:Sem Fin) (σ:FS) (hm:okM c md) (hk:okK κ) (hv:AllValid prog w F.V.kt lev σ.cs) (H:GoodF F prog w A₀ R₀ s₀ (qmf F ih c md κ t σ)) :
  FEq σ∧∀s,FRep F.V s₀ σ s→MeansF prog w A₀ R₀ c md κ t s:=by
 cases t with
 | pure fin =>
  cases fin with
  | done f=>exact qc2 ih IH rfl hm hk hv H
  | again c'=>exact qfZ ih P O h0 hd0 hu0 IH hm hk hv H
 | raise e=>exact qc2 ih IH rfl hm hk hv H
 | rule tag k =>
  have z:=IH _ _ _ _ _ hm hk hv H
  cases md with
  | none=>exact z
  | some fs=>exact ⟨z.1,λs D=>qbr (m:=rule tag) (k:=k) (wpAny_rule (z.2 s D))⟩
 | «at» q k =>
  have z:=IH _ _ _ _ _ hm hk hv H
  cases md with
  | none=>exact z
  | some fs=>exact ⟨z.1,λs D=>qbr (m:=T8 q) (k:=k) (wpAny_standAt (z.2 s D))⟩
 | point l k =>
  have z:=IH _ _ _ _ _ hm hk hv H
  cases md with
  | none=>exact z
  | some fs=>exact ⟨z.1,λs D=>s_skim _ _ _ _ _ _ _ _ 1 (z.2 s D)⟩
 | ask k =>
  have z:=IH _ _ _ _ _ hm hk (by exact hv) H
  refine ⟨⟨z.1.1,z.1.2.1,z.1.2.2.1,z.1.2.2.2.1,λp hp=>z.1.2.2.2.2.1 p (.tail _ hp),z.1.2.2.2.2.2⟩,λs D => ?_⟩
  have e:k ⟨F.V.prog,F.V.par0⟩=k ⟨F.V.prog,F.V.par1⟩:=z.1.2.2.2.2.1 _ (.head _)
  have y:=z.2 s (D.asks _)
  have e':k ⟨prog,w.params⟩=k ⟨F.V.prog,F.V.par1⟩:=by
   rcases O.par with h | h
   ·rw [←P.hprog,h,e]
   ·rw [←P.hprog,h]
  rw [←e'] at y
  cases md with
  | none=>exact y
  | some fs=>exact qbr (m:=ask) (k:=k) (wpAny_askSetting y)
 | fresh k =>
  have z:=IH _ _ _ _ _ hm hk (by exact hv) H
  refine ⟨z.1,λs D => ?_⟩
  have y:=z.2 {s with toks:=σ.t0+σ.i+1} {D with toks:=rfl}
  rw [←D.toks] at y
  cases md with
  | none=>exact y
  | some fs=>exact qbr (m:=fresh) (k:=k) (wpAny_fresh y)
 | load a q k =>
  have z:=qb0 ih IH hm hk hv H
  refine ⟨z.1,λs D => ?_⟩
  obtain ⟨o,ho,y⟩:=z.2 s D
  cases md with
  | none=>exact ⟨o,ho,y⟩
  | some fs=>exact qbr (m:=loadPart a q) (k:=k) (wpAny_loadPart ho y)
 | loadIfAlive a k =>
  have z:=qb0 ih IH hm hk hv H
  refine ⟨z.1,λs D => ?_⟩
  obtain ⟨o,ho,y⟩:=z.2 s D
  cases md with
  | none=>exact ⟨o,ho,y⟩
  | some fs=>exact s_alive _ _ _ _ _ _ s.heap s.gens s.drawn s.toks s.os _ _ _ ho y
 | update a q f k=>exact qiq ih O IH hm hk hv H
 | alloc o k=>exact qfX ih IH hm hk hv H
 | handled own k =>
  cases own with
  | true=>exact H.elim
  | false =>
   have z:=IH _ _ _ _ _ hm hk hv H
   refine ⟨z.1,λs D => ?_⟩
   have y:=z.2 s D
   cases md with
   | none =>
    rw [show hdC none κ=(arK A₀ κ).handled from vO h0 κ] at y
    exact ⟨rfl,y⟩
   | some fs =>
    rw [show hdC (some fs) κ=((arK A₀ κ).over c fs).handled from by show (marksOver fs (hdK κ,hdK κ)).1=(marksOver fs ((arK A₀ κ).handled,(arK A₀ κ).handled)).1;rw [vO h0 κ]] at y
    exact s_handled _ _ _ _ _ _ _ _ y
 | stack k =>
  have z:∀p b,_:=λp b=>IH _ _ _ _ _ hm hk hv (H p b)
  refine ⟨(z default []).1,λs D => ?_⟩
  cases md with
  | none=>exact λp below=>(z p below).2 s D
  | some fs=>exact s_stack _ _ _ _ _ _ _ _ λp below _=>(z p below).2 s D
 | call c' hd g l k =>
  have H:GoodF F prog w A₀ R₀ s₀ (match okMark hd with
   | true=>qih F ih c md κ σ c' hd g l k
   | false => .bad 8 (.call c' hd g l k)):=H
  obtain ⟨q,H⟩:=H.t
  refine qig ih P O h0 hd0 hu0 IH hm hk hv (λe => ?_) H
  subst e
  simp [okMark] at q
 | newGen c' k =>
  have z:=IH _ _ _ _ _ hm hk (by exact hv) H
  refine ⟨z.1,λs D => ?_⟩
  obtain ⟨hg,D'⟩:=D.newGen c'
  have y:=z.2 _ D'
  rw [←hg] at y
  cases md with
  | none=>exact y
  | some fs=>exact s_newGen _ _ _ _ _ _ s.heap s.gens s.drawn s.toks s.os _ _ y
 | genState g k=>exact qjT ih IH hm hk hv H
 | resume g r l k =>
  cases md with
  | some=>exact H.elim
  | none=>exact qi6 ih P IH hm hk hv H
 | yield v gd l k =>
  cases md with
  | none=>exact H.elim
  | some fs =>
   cases gd with
   | true=>exact H.elim
   | false=>exact qin ih IH hk hv H
 | _=>exact H.elim
end
theorem qbT {F:FP} {prog:T6} {w:T3} {A₀:Around} {R₀:Result→T2→Prop} {s₀:T2} (P:qaD F prog w A₀ s₀) (O:FOk F.V w s₀) (h0:A₀.handled=none) {lev:Nat} (hd0:A₀.depth+130*(lev+1)<U0) (hu0:A₀.units+260*(lev+1)<cLine) :
  ∀n c md κ t σ,okM c md→okK κ→AllValid prog w F.V.kt lev σ.cs→GoodF F prog w A₀ R₀ s₀ (runF F n c md κ t σ)→FEq σ∧∀s,FRep F.V s₀ σ s→MeansF prog w A₀ R₀ c md κ t s
 | 0=>λ_ _ _ _ _ _ _ _ H=>H.elim
 | n+1=>qfI (runF F n) P O h0 hd0 hu0 (qbT P O h0 hd0 hu0 n)
end
section
open Sem (wp)
noncomputable def LeP {α:Type} (prog:T6) (w:T3) (A:Around) (t' t:Sem α):Prop:=∀Γ p s (Q:α→Pos→T2→Prop) (E:T1→Pos→T2→Prop),Γ.In A→wp (model prog w) Γ t' Q E p s→wp (model prog w) Γ t Q E p s
section
variable {α β:Type} {prog:T6} {w:T3} {A:Around}
theorem LeP.refl (t:Sem α):LeP prog w A t t:=λ_ _ _ _ _ _ h=>h
theorem LeP.trans {a b c:Sem α} (h1:LeP prog w A a b) (h2:LeP prog w A b c):LeP prog w A a c:=λΓ p s Q E hΓ h=>h2 Γ p s Q E hΓ (h1 Γ p s Q E hΓ h)
theorem LeP.bind {t t':Sem α} {f f':α→Sem β} (h:LeP prog w A t' t) (hf:∀a,LeP prog w A (f' a) (f a)):LeP prog w A (t' >>= f') (t >>= f):=λΓ p s Q E hΓ x=>by
 rw [Sem.wp_bind'] at x ⊢
 exact Sem.wp_mono _ _ _ (λa p' s' y=>hf a Γ p' s' Q E hΓ y) (λ_ _ _ y=>y) p s (h Γ p s _ _ hΓ x)
theorem LeP.bindR {t:Sem α} {f f':α→Sem β} (hf:∀a,LeP prog w A (f' a) (f a)):LeP prog w A (t >>= f') (t >>= f):=LeP.bind (LeP.refl t) hf
theorem LeP.onRaise {t t':Sem α} {k:T1→Sem Unit} (h:LeP prog w A t' t):LeP prog w A (t'.onRaise k) (t.onRaise k):=λΓ p s Q E hΓ x=>by
 rw [Sem.wp_onRaise] at x ⊢
 exact h Γ p s _ _ hΓ x
theorem LeP.holding {t t':Sem α} {vs:List T1} (h:LeP prog w A t' t):LeP prog w A (holding vs t') (holding vs t):=λΓ p s Q E hΓ x=>by
 rw [Sem.wp_holding] at x ⊢
 exact h Γ p s _ _ hΓ x
theorem LeP.unhold {t:Sem α} {vs:List T1}:LeP prog w A t (PySem.holding vs t):=λΓ p s Q E hΓ x=>by
 rw [Sem.wp_holding]
 exact x
theorem qp5 {c:Code} {t t':Sem α} {Q:α→T2→Prop} {E:T1→T2→Prop} {s:T2} (h:LeP prog w (A.under c) t' t) (x:wpOwn (model prog w) A c t' Q E s):wpOwn (model prog w) A c t Q E s :=
 λΓ p hc hΓ=>h Γ p s _ _ (hc▸hΓ.in) (x Γ p hc hΓ)
noncomputable def j4:Sem Unit:=do
 let n ←currentRecursionLimit
 match J3 n 1000 with
 | true=>pure ()
 | false=>T7 "the limit"
theorem qj9 {Γ:Ctx} {p:Pos} (hΓ:Γ.In A) (hd:A.depth<U0):((((Γ.code,p)::Γ.below).map (·.1)).map (·.frames)).sum+((((Γ.code,p)::Γ.below).map (·.1)).filter Code.isCreation).length<U0:=by
 have hge:=frameCount_ge ((Γ.code,p)::Γ.below)
 rw [frameCount_cons] at hge
 have:=hΓ.2.1
 lia
theorem qdc (hd:A.depth<U0):LeP prog w A j4 enterFrame:=λΓ p s Q E hΓ x=>by
 unfold j4 at x
 simp only [enterFrame,Sem.wp_bind'] at x ⊢
 show wp (model prog w) Γ currentRecursionLimit _ E p s
 refine Sem.wp_mono _ _ _ (λn p' s' y => ?_) (λ_ _ _ y=>y) p s x
 cases hn:J3 n 1000 with
 | false=>rw [hn] at y;exact absurd y (by simp [T7])
 | true =>
  rw [hn] at y
  have hn':n=U0:=J9 hn
  subst hn'
  have hsum:=qj9 (p:=p) hΓ hd
  have hlt:¬((((Γ.code,p)::Γ.below).map (·.1)).map (·.frames)).sum≥U0:=by lia
  have hlt':¬((((Γ.code,p)::Γ.below).map (·.1)).map (·.frames)).sum+((((Γ.code,p)::Γ.below).map (·.1)).filter Code.isCreation).length≥U0:=by lia
  show wp _ Γ (if nearTheLimitUnderAClaim (((Γ.code,p)::Γ.below).map (·.1)) (((((Γ.code,p)::Γ.below).map (·.1)).map (·.frames)).sum+((((Γ.code,p)::Γ.below).map (·.1)).filter Code.isCreation).length) U0=true then _ else _) _ _ p' s'
  rw [if_neg (by rw [not_nearTheLimit hΓ hd];exact F7)]
  show wp _ Γ (if ((((Γ.code,p)::Γ.below).map (·.1)).map (·.frames)).sum≥U0 then _ else _) _ _ p' s'
  rw [if_neg hlt]
  show wp _ Γ (if ((((Γ.code,p)::Γ.below).map (·.1)).map (·.frames)).sum+((((Γ.code,p)::Γ.below).map (·.1)).filter Code.isCreation).length≥U0 then _ else _) _ _ p' s'
  rw [if_neg hlt'];exact y
theorem qku (hd:A.depth<U0):LeP prog w A j4 roomToWake:=λΓ p s Q E hΓ x=>by
 unfold j4 at x
 simp only [roomToWake,Sem.wp_bind'] at x ⊢
 show wp (model prog w) Γ currentRecursionLimit _ E p s
 refine Sem.wp_mono _ _ _ (λn p' s' y => ?_) (λ_ _ _ y=>y) p s x
 cases hn:J3 n 1000 with
 | false=>rw [hn] at y;exact absurd y (by simp [T7])
 | true =>
  rw [hn] at y
  have hn':n=U0:=J9 hn
  subst hn'
  have hsum:=qj9 (p:=p) hΓ hd
  have hlt':¬((((Γ.code,p)::Γ.below).map (·.1)).map (·.frames)).sum+((((Γ.code,p)::Γ.below).map (·.1)).filter Code.isCreation).length≥U0:=by lia
  show wp _ Γ (if nearTheLimitUnderAClaim (((Γ.code,p)::Γ.below).map (·.1)) (((((Γ.code,p)::Γ.below).map (·.1)).map (·.frames)).sum+((((Γ.code,p)::Γ.below).map (·.1)).filter Code.isCreation).length) U0=true then _ else _) _ _ p' s'
  rw [if_neg (by rw [not_nearTheLimit hΓ hd];exact F7)]
  show wp _ Γ (if ((((Γ.code,p)::Γ.below).map (·.1)).map (·.frames)).sum+((((Γ.code,p)::Γ.below).map (·.1)).filter Code.isCreation).length≥U0 then _ else _) _ _ p' s'
  rw [if_neg hlt'];exact y
theorem qkO {what:String} {vs:List T1} (hu:A.units<cLine):LeP prog w A (pure ()) (cRoomFor what vs):=λΓ p s Q E hΓ x=>by
 rw [Sem.wp_pure'] at x
 exact Sem.wp_cRoomFor what vs (O0 hΓ.2.2.2.2 hu) x
noncomputable def LeW {α:Type} (prog:T6) (w:T3) (A:Around) (t' t:Sem α):Prop:=∀(A₀:Around) (c:Code),A₀.under c=A→∀(Q:α→T2→Prop) (E:T1→T2→Prop) (s:T2),W prog w A₀ c t' Q E s→wpOwn (model prog w) A₀ c t Q E s
theorem LeP.le {t t':Sem α} (h:LeP prog w A t' t):LeW prog w A t' t:=λA₀ c e Q E s x=>qp5 (by rw [e];exact h) (qdT t' x)
theorem LeW.refl (t:Sem α):LeW prog w A t t:=λ_ _ _ _ _ _ x=>qdT t x
theorem D5 {t t' u:Sem α} (h:LeW prog w A t' t) (e:t=u):LeW prog w A t' u:=e▸h
theorem B1 {t:Sem α} {m:String}:LeW prog w A (T7 m) t:=λ_ _ _ _ _ _ h=>h.elim
theorem D7 {b:Bool} {x y x' y':Sem α} (h1:LeW prog w A x x') (h2:LeW prog w A y y'):LeW prog w A (match b with | true=>x | false=>y) (if b=true then x' else y'):=by
 cases b
 ·exact h2
 ·exact h1
theorem D9 {b:Bool} {x x' y':Sem α} {m:String} (h1:LeW prog w A x x'):LeW prog w A (match b with | true=>x | false=>T7 m) (if b=true then x' else y'):=D7 h1 B1
theorem LeW.ifF {b:Bool} {y x' y':Sem α} {m:String} (h1:LeW prog w A y y'):LeW prog w A (match b with | true=>T7 m | false=>y) (if b=true then x' else y'):=D7 B1 h1
theorem B9 {l:List (U2×T1)} {x t:Sem α} {m:String} (h:l=[]→LeW prog w A x t):LeW prog w A (match l with | []=>x | _=>T7 m) t:=by
 cases l
 ·exact h rfl
 ·exact B1
theorem LeW.ps1 {l:List T1} {f:T1→Sem α} {t:Sem α} {m:String} (h:∀a,l=[a]→LeW prog w A (f a) t):LeW prog w A (match l with | [a]=>f a | _=>T7 m) t:=by
 cases l with
 | nil=>exact B1
 | cons a l=>cases l with
  | nil=>exact h a rfl
  | cons=>exact B1
theorem C7 {l:List T1} {f:T1→T1→Sem α} {t:Sem α} {m:String} (h:∀a b,l=[a,b]→LeW prog w A (f a b) t):LeW prog w A (match l with | [a,b]=>f a b | _=>T7 m) t:=by
 cases l with
 | nil=>exact B1
 | cons a l=>cases l with
  | nil=>exact B1
  | cons b l=>cases l with
   | nil=>exact h a b rfl
   | cons=>exact B1
theorem LeW.ps3 {l:List T1} {f:T1→T1→T1→Sem α} {t:Sem α} {m:String} (h:∀a b c,l=[a,b,c]→LeW prog w A (f a b c) t):LeW prog w A (match l with | [a,b,c]=>f a b c | _=>T7 m) t:=by
 cases l with
 | nil=>exact B1
 | cons a l=>cases l with
  | nil=>exact B1
  | cons b l=>cases l with
   | nil=>exact B1
   | cons c l=>cases l with
    | nil=>exact h a b c rfl
    | cons=>exact B1
theorem B6 {v:T1} {f:Addr→Sem α} {t:Sem α} {m:String} (h:∀a,v = .ref a→LeW prog w A (f a) t):LeW prog w A (match v with | .ref a=>f a | _=>T7 m) t:=by
 cases v with
 | ref a=>exact h a rfl
 | _=>exact B1
theorem D1 {l:List T1} {f:T1→T1→T1→T1→Sem α} {t:Sem α} {m:String} (h:∀a b c d,l=[a,b,c,d]→LeW prog w A (f a b c d) t):LeW prog w A (match l with | [a,b,c,d]=>f a b c d | _=>T7 m) t:=by
 cases l with
 | nil=>exact B1
 | cons a l=>cases l with
  | nil=>exact B1
  | cons b l=>cases l with
   | nil=>exact B1
   | cons c l=>cases l with
    | nil=>exact B1
    | cons d l=>cases l with
     | nil=>exact h a b c d rfl
     | cons=>exact B1
theorem B8 {v:T1} {f:Int→U1→Sem α} {t:Sem α} {m:String} (h:∀i k,v = .int i k→LeW prog w A (f i k) t):LeW prog w A (match v with | .int i k=>f i k | _=>T7 m) t:=by
 cases v with
 | int i k=>exact h i k rfl
 | _=>exact B1
theorem D4 {v:T1} {f:U2→U1→Sem α} {t:Sem α} {m:String} (h:∀i k,v = .str i k→LeW prog w A (f i k) t):LeW prog w A (match v with | .str i k=>f i k | _=>T7 m) t:=by
 cases v with
 | str i k=>exact h i k rfl
 | _=>exact B1
theorem C5 {v:T1} {f:String→Sem α} {t:Sem α} {m:String} (h:∀i,v = .type i→LeW prog w A (f i) t):LeW prog w A (match v with | .type i=>f i | _=>T7 m) t:=by
 cases v with
 | type i=>exact h i rfl
 | _=>exact B1
theorem B3 {b:Bool} {x t:Sem α} {m:String} (h:b=true→LeW prog w A x t):LeW prog w A (match b with | true=>x | false=>T7 m) t:=by
 cases b
 ·exact B1
 ·exact h rfl
theorem C9 {b:Bool} {x t:Sem α} {m:String} (h:b=false→LeW prog w A x t):LeW prog w A (match b with | true=>T7 m | false=>x) t:=by
 cases b
 ·exact h rfl
 ·exact B1
theorem LeW.args {args:Args} {ps:List T1} (hk:args.kw=[]) (hp:args.pos=ps) {t:Sem α} {f:Args→Sem α} (h:LeW prog w A t (f ⟨ps,[]⟩)):LeW prog w A t (f args):=by
 obtain ⟨ps,kw⟩:=args
 cases hk
 cases hp
 exact h
theorem LeW.bind {t t':Sem α} {f f':α→Sem β} (h:LeW prog w A t' t) (hf:∀a,LeW prog w A (f' a) (f a)):LeW prog w A (t' >>= f') (t >>= f):=λA₀ c e Q E s x =>
 wpOwn_bind (wpOwn_mono (h A₀ c e _ _ _ (qaB f' t' x)) (λa s' y=>hf a A₀ c e _ _ _ y) λ_ _ y=>y)
theorem LeW.bindR {t:Sem α} {f f':α→Sem β} (hf:∀a,LeW prog w A (f' a) (f a)):LeW prog w A (t >>= f') (t >>= f):=LeW.bind (LeW.refl t) hf
theorem qa5 {A₀:Around} {c:Code} {t:Sem α} {k:T1→Sem Unit} {Q:α→T2→Prop} {E:T1→T2→Prop} {s:T2} (h:wpOwn (model prog w) A₀ c t Q (λe s'=>wpOwn (model prog w) A₀ c (k e) (λ_ s''=>E e s'') E s') s):wpOwn (model prog w) A₀ c (t.onRaise k) Q E s:=λΓ p hc hΓ=>by
 rw [Sem.wp_onRaise]
 exact Sem.wp_mono _ _ _ (λ_ _ _ y=>y) (λe p' s' y=>y Γ p' hc hΓ) p s (h Γ p hc hΓ)
theorem LeW.onRaise {t t':Sem α} {k:T1→Sem Unit} (h:LeW prog w A t' t):LeW prog w A (t'.onRaise k) (t.onRaise k):=λA₀ c e Q E s x =>
 qa5 (wpOwn_mono (h A₀ c e _ _ _ (qkq k t' x)) (λ_ _ y=>y) λv s' y=>qdT (k v) y)
theorem LeW.holding {t t':Sem α} {vs:List T1} (h:LeW prog w A t' t):LeW prog w A (PySem.holding vs t') (PySem.holding vs t):=λA₀ c e Q E s x Γ p hc hΓ=>by
 rw [Sem.wp_holding]
 rw [holding_eq_keep] at x
 exact h A₀ c e Q E s (qrK _ t' x) Γ p hc hΓ
theorem LeW.unhold {t t':Sem α} {vs:List T1} (h:LeW prog w A t' t):LeW prog w A t' (PySem.holding vs t):=λA₀ c e Q E s x Γ p hc hΓ=>by
 rw [Sem.wp_holding]
 exact h A₀ c e Q E s x Γ p hc hΓ
theorem C8 {t:Sem α} {a:α} (h:∀(Q:α→T2→Prop) (E:T1→T2→Prop) (s:T2),Q a s→wpAny (model prog w) A t Q E s):LeW prog w A (pure a) t:=λA₀ c e Q E s x=>wpOwn_of_wpAny (by rw [e];exact h Q E s x)
theorem qlE (hd:A.depth<U0):LeW prog w A j4 enterFrame:=(qdc hd).le
theorem qf1 (hd:A.depth<U0):LeW prog w A j4 roomToWake:=(qku hd).le
theorem qf8 {what:String} {vs:List T1} (hu:A.units<cLine):LeW prog w A (pure ()) (cRoomFor what vs):=(qkO hu).le
end
end
section
open Sem (wp)
structure EV where
 prog:T6
 par:T4
 adr:List Nat
 N:Nat
 t0:Nat
 g0:Nat
 kt:Nat→Option Obj
structure ES where
 T:BT
 cnt:Nat
 i:Nat
 gl:List Code
 hs:List Nat
 eqs:List (Nat×Nat)
noncomputable def adrAt:List Nat→Nat→Nat→Nat
 | [],N,j=>N+j
 | a::l,N,j=>match j with
  | 0=>a
  | j+1=>adrAt l N j
noncomputable def op {α:Type} (V:EV) (t:Sem α) (σ:ES):Option (Sem α×ES):=match t with
 | .rule _ k=>some (k (),σ)
 | .at _ k=>some (k (),σ)
 | .point _ k=>some (k (),σ)
 | .ask k=>some (k ⟨V.prog,V.par⟩,σ)
 | .fresh k=>some (k (V.t0+σ.i),{σ with i:=σ.i+1})
 | .load a _ k=>match σ.hs with
  | []=>none
  | h::hs=>match h with
   | 0=>match V.kt a with
    | some o=>some (k o,{σ with hs:=hs})
    | none=>none
   | j+1=>match σ.T.get j with
    | some o=>some (k o,{σ with hs:=hs,eqs:=(a,adrAt V.adr V.N j)::σ.eqs})
    | none=>none
 | .loadIfAlive a k=>match σ.hs with
  | []=>none
  | h::hs=>match h with
   | 0=>match V.kt a with
    | some o=>some (k (some o),{σ with hs:=hs})
    | none=>none
   | j+1=>match σ.T.get j with
    | some o=>some (k (some o),{σ with hs:=hs,eqs:=(a,adrAt V.adr V.N j)::σ.eqs})
    | none=>none
 | .update a _ f k=>match σ.hs with
  | []=>none
  | h::hs=>match h with
   | 0=>none
   | j+1=>match σ.T.get j with
    | some o=>match (f o).isFreed with
     | false=>some (k (),{σ with T:=σ.T.set j f,hs:=hs,eqs:=(a,adrAt V.adr V.N j)::σ.eqs})
     | true=>none
    | none=>none
 | .alloc o k=>match o.isFreed with
  | false=>match (σ.T.ins σ.cnt o).get σ.cnt with
   | some _=>some (k (adrAt V.adr V.N σ.cnt),{σ with T:=σ.T.ins σ.cnt o,cnt:=σ.cnt+1})
   | none=>none
  | true=>none
 | .newGen c k=>some (k (V.g0+σ.gl.length),{σ with gl:=σ.gl++[c]})
 | _=>none
structure qcX (V:EV) (s₀:T2) (σ:ES) (s:T2):Prop where
 size:s.heap.objs.size+V.adr.length=V.N+σ.cnt
 lo:V.adr.length≤σ.cnt
 own:∀j o,σ.T.get j=some o→j<σ.cnt∧s.heap.get? (adrAt V.adr V.N j)=some o
 kt:∀a o,V.kt a=some o→s.heap.get? a=some o
 keep:∀b o,s₀.heap.get? b=some o→b∉V.adr→s.heap.get? b=some o
 toks:s.toks=V.t0+σ.i
 gens:s.gens=s₀.gens++(σ.gl.map GenState.fresh).toArray
 drawn:s.drawn=s₀.drawn
 os:s.os=s₀.os
structure EOk (V:EV) (w:T3) (s₀:T2):Prop where
 par:V.par=w.params
 nodup:V.adr.Nodup
 low:∀a∈V.adr,a<V.N
 size:s₀.heap.objs.size=V.N
 gens:s₀.gens.size=V.g0
 ktOff:∀a o,V.kt a=some o→a∉V.adr∧a<V.N
theorem uK:∀{l:List Nat} {N j:Nat},(∀a∈l,a<N)→j<l.length→adrAt l N j<N∧adrAt l N j∈l
 | a::l,N,0,h,_=>⟨h a (.head _), .head _⟩
 | a::l,N,j+1,h,hj=>by
  have:=uK (l:=l) (N:=N) (j:=j) (λb hb=>h b (.tail _ hb)) (L6 hj)
  exact ⟨this.1, .tail _ this.2⟩
theorem vi:∀{l:List Nat} {N j:Nat},l.length≤j→adrAt l N j+l.length=N+j
 | [],N,j,_=>rfl
 | a::l,N,0,h=>absurd h (P9 _)
 | a::l,N,j+1,h=>by
  have:=vi (l:=l) (N:=N) (j:=j) (P5 h)
  show adrAt l N j+(l.length+1)=N+(j+1)
  lia
theorem qdi:∀{l:List Nat} {N i j:Nat},l.Nodup→(∀a∈l,a<N)→adrAt l N i=adrAt l N j→i=j
 | [],N,i,j,_,_,e=>Q5 e
 | a::l,N,0,0,_,_,_=>rfl
 | a::l,N,0,j+1,hn,hl,e=>by
  exfalso
  rw [F3] at hn
  have e:a=adrAt l N j:=e
  by_cases hj:j<l.length
  ·exact hn.1 (e▸(uK (λb hb=>hl b (.tail _ hb)) hj).2)
  ·have:=vi (l:=l) (N:=N) (j:=j) (by lia)
   have:=hl a (.head _)
   lia
 | a::l,N,i+1,0,hn,hl,e=>by
  exfalso
  rw [F3] at hn
  have e:a=adrAt l N i:=e.symm
  by_cases hj:i<l.length
  ·exact hn.1 (e▸(uK (λb hb=>hl b (.tail _ hb)) hj).2)
  ·have:=vi (l:=l) (N:=N) (j:=i) (by lia)
   have:=hl a (.head _)
   lia
 | a::l,N,i+1,j+1,hn,hl,e=>by
  rw [F3] at hn
  rw [qdi hn.2 (λb hb=>hl b (.tail _ hb)) e]
section
variable {V:EV} {w:T3} {s₀ s:T2} {σ:ES}
theorem qcX.alloc (O:EOk V w s₀) (D:qcX V s₀ σ s) {o:Obj} (hf:o.isFreed=false) (hg:((σ.T.ins σ.cnt o).get σ.cnt).isSome=true) :
  adrAt V.adr V.N σ.cnt=s.heap.objs.size∧qcX V s₀ {σ with T:=σ.T.ins σ.cnt o,cnt:=σ.cnt+1} {s with heap:=s.heap.push o}:=by
 have ha:adrAt V.adr V.N σ.cnt=s.heap.objs.size:=by
  have:=vi (l:=V.adr) (N:=V.N) D.lo
  have:=D.size
  lia
 refine ⟨ha,?_,R5 D.lo,λj o' e => ?_,λa o' e=>E8 _ (D.kt a o' e),λb o' e hb=>E8 _ (D.keep b o' e hb),D.toks,D.gens,D.drawn,D.os⟩
 ·show (s.heap.push o).objs.size+_=V.N+(σ.cnt+1)
  rw [J4]
  have:=D.size
  lia
 ·rw [BT.get_ins o σ.T σ.cnt hg] at e
  by_cases hj:j=σ.cnt
  ·subst hj
   rw [if_pos rfl] at e
   cases e
   exact ⟨R9 _,by rw [ha];exact I4 _ hf⟩
  ·rw [if_neg hj] at e
   have z:=D.own j o' e
   exact ⟨O3 z.1,E8 _ z.2⟩
theorem qcX.update (O:EOk V w s₀) (D:qcX V s₀ σ s) {j:Nat} {o:Obj} {f:Obj→Obj} (e:σ.T.get j=some o) (hf:(f o).isFreed=false) :
  qcX V s₀ {σ with T:=σ.T.set j f} {s with heap:=s.heap.update (adrAt V.adr V.N j) f}:=by
 have z:=D.own j o e
 have hs:N1 (adrAt V.adr V.N j) s.heap (s.heap.update (adrAt V.adr V.N j) f):=N1.update ..
 have ne:∀a,a∉V.adr→a<V.N→a≠adrAt V.adr V.N j:=by
  intro a ha hl q
  by_cases hj:j<V.adr.length
  ·exact ha (q▸(uK O.low hj).2)
  ·have:=vi (l:=V.adr) (N:=V.N) (j:=j) (by lia)
   lia
 refine ⟨by show (s.heap.update _ f).objs.size+_=_;rw [hs.1];exact D.size,D.lo,λi o' e' => ?_,λa o' e'=>(hs.2 a (ne a (O.ktOff a o' e').1 (O.ktOff a o' e').2)).trans (D.kt a o' e'),λb o' e' hb=>(hs.2 b (ne b hb (by rw [←O.size];exact I0 e'))).trans (D.keep b o' e' hb),D.toks,D.gens,D.drawn,D.os⟩
 rw [BT.get_set] at e'
 by_cases hi:i=j
 ·subst hi
  rw [if_pos rfl,e] at e'
  cases e'
  exact ⟨z.1,G2 f z.2 hf⟩
 ·rw [if_neg hi] at e'
  have y:=D.own i o' e'
  exact ⟨y.1,(hs.2 _ λq=>hi (qdi O.nodup O.low q)).trans y.2⟩
end
noncomputable def qck (fd:T5) (env:Env):Code:=match fd.body with
 | .stmts b => .func b env
 | .expr e => .expr e env
noncomputable def qq7 (fl:T1→Nat→Sem T1) (ba:T5→Args→Sem (List (U2×T1))) (ne:Scope→Addr→List (U2×Addr)→List (U2×T1)→U2→Option Addr→T1→Option Env→Addr→Sem Env) (loc:U2) (a:Addr) (fd:T5) (args:Args):Sem Env:=do
 let compiled ←match fd.code with
  | .none=>pure fd.qualname
  | c=>do match ←fl c 1 with
   | .str q _=>pure q
   | _=>pure fd.qualname
 let binds ←ba fd args
 ne fd.scope fd.globals fd.closure binds (compiled++loc) (some a) fd.code none fd.builtins
noncomputable def qfm:Addr→T5→Args→Sem Env:=qq7 field bindArgs @newFunctionEnv ".<locals>."
noncomputable def qrG (ng:Code→U2→U2→Sem T1) (fd:T5) (code:Code):Sem Fin:=match fd.scope.isGenerator,fd.scope.isCoroutine with
 | false,false=>again code
 | true,false=>do ret (←ng code fd.name fd.qualname)
 | false,true=>do ret (←newCoroutine code fd.name fd.qualname)
 | true,true=>do ret (←newAsyncGenerator code fd.name fd.qualname)
noncomputable def qcp:T5→Code→Sem Fin:=qrG newGenerator
noncomputable def lv (A:Around) (n:Nat):Around:={handled:=none,depth:=A.depth+5*n,units:=A.units+10*n}
section
variable (M:Model) (A:Around) (R:Result→T2→Prop)
end
theorem qmF {α β γ δ:Type} {m:Sem α} {ba:Sem β} {h:α→β→Sem γ} {g:γ→Sem δ}:(m >>= λc=>ba >>= h c) >>= g=m >>= λc=>ba >>= λb=>h c b >>= g :=
 (bind_assoc _ _ _).trans (bind_congr λ_=>bind_assoc _ _ _)
theorem qkc (a:Addr) (fd:T5) (args:Args):callFunction a fd args=qfm a fd args >>= λenv=>enterFrame >>= λ_=>qcp fd (qck fd env):=by
 unfold callFunction qfm qq7
 cases fd.code <;> first | exact qmF.symm | (refine (Eq.trans (bind_assoc _ _ _) (bind_congr λx => ?_)).symm;cases x <;> exact qmF)
section
variable {V:EV} {prog:T6} {w:T3} {s₀:T2} {A:Around} {R:Result→T2→Prop} {stops:Code→Bool}
end
end
section
open PySem.Builtin.Generator
open Sem (wp)
noncomputable def qhA (g:T1):Sem PySem.Fin:=do
 let n ←genNumber g
 match ←genState n with
 | .fresh=>j4
 | .suspended=>j4
 | _=>T7 "next"
 match ←resume n (.send .none) with
 | .yielded v=>ret v
 | .returned v=>match v with
  | .none=>do
   let e ←newExc (.type "StopIteration") []
   let _ ←(raiseNew e:Sem Unit)
   T7 "next"
  | _=>T7 "next"
 | _=>T7 "next"
noncomputable def qdR (f:T1) (args:Args):Sem PySem.Fin:=match f with
 | .ref a=>do
  let o ←load a
  match o.data with
  | .func fd=>qfm a fd args >>= λenv=>j4 >>= λ_=>qcp fd (qck fd env)
  | _=>callAny (.ref a) args
 | f=>callAny f args
section
variable {α β:Type} {prog:T6} {w:T3} {A:Around}
theorem B7 {t:Sem α} {x:String}:LeW prog w A (T7 x) t:=λ_ _ _ _ _ _ h=>h.elim
theorem C3 {t:Sem β} {x:String} {f:α→Sem β}:LeW prog w A (T7 x >>= f) t:=λ_ _ _ _ _ _ h=>h.elim
theorem qnh (hd:A.depth<U0) (g:T1):LeW prog w A (qhA g) (genWake g (.send .none)):=by
 unfold qhA genWake
 refine LeW.bind (LeW.unhold (LeW.refl _)) λn=>LeW.bindR λst => ?_
 cases st with
 | fresh =>
  refine LeW.bind (qf1 hd) λ_=>LeW.bindR λr => ?_
  cases r with
  | returned v=>cases v <;> first | exact B7 | exact LeW.bindR λe=>LeW.bindR λ_=>B7
  | yielded v=>exact LeW.refl _
  | _=>exact B7
 | suspended =>
  refine LeW.bind (qf1 hd) λ_=>LeW.bindR λr => ?_
  cases r with
  | returned v=>cases v <;> first | exact B7 | exact LeW.bindR λe=>LeW.bindR λ_=>B7
  | yielded v=>exact LeW.refl _
  | _=>exact B7
 | _=>exact C3
theorem qlR (hd:A.depth<U0) (f:T1) (args:Args):LeP prog w A (qdR f args) (callAny f args):=by
 cases f with
 | ref a =>
  intro Γ p s Q E hΓ x
  unfold qdR at x
  rw [Sem.wp_bind'] at x
  obtain ⟨o,ho,x⟩:=x
  have x:=x
  rw [Sem.wp_pure] at x
  cases hdat:o.data with
  | func fd =>
   unfold callAny
   rw [Sem.wp_bind']
   refine (Sem.wp_load_of _ Γ _ p s ho _).mpr ?_
   have x:wp (model prog w) Γ (match o.data with | .func fd=>qfm a fd args >>= λenv=>j4 >>= λ_=>qcp fd (qck fd env) | _=>callAny (.ref a) args) Q E p s:=x
   rw [hdat] at x
   simp only [hdat]
   show wp (model prog w) Γ (callFunction a fd args) Q E p s
   rw [qkc]
   exact LeP.bindR (λenv=>LeP.bind (qdc hd) λ_=>LeP.refl _) Γ p s Q E hΓ x
  | _ =>
   have x:wp (model prog w) Γ (match o.data with | .func fd=>qfm a fd args >>= λenv=>j4 >>= λ_=>qcp fd (qck fd env) | _=>callAny (.ref a) args) Q E p s:=x
   rw [hdat] at x
   exact x
 | _=>exact LeP.refl _
theorem qo2 (hd:A.depth<U0) (f:T1) (args:Args):LeW prog w A (qdR f args) (callAny f args):=(qlR hd f args).le
end
end
section
open Sem (wp)
theorem qhp:entryFor treeTable "claim.caller"=none:=by kernel_rfl
noncomputable def qhB (args:Args):Sem PySem.Fin:=do
 let r ←slotArgs "__next__" 0 args
 qhA r.1
section
variable {prog:T6} {w:T3} {A:Around}
theorem qk0 (hd:A.depth<U0) {args:Args}:LeW prog w A (qhB args) (Builtin.«generator.__next__» args):=by
 unfold Builtin.«generator.__next__»
 exact LeW.bindR λr=>qnh hd r.1
theorem qjz (hd:A.depth<U0) {id:String} {args:Args} (h:entryFor table id=some Builtin.«generator.__next__»):LeW prog w A (qhB args) (denote table (.builtin id args)):=by
 rw [uB h]
 exact qk0 hd
end
end
section
open Sem (wp)
theorem qh2 (l:Expr) (op:CmpOp) (r:Expr) (pos:Pos) (env:Env):eval (.Compare l [op] [r] pos) env=(eval l env >>= λa=>PySem.holding [a] (markedBehindIn op r (eval r env)) >>= λb=>T8 pos >>= λ_=>operate [a,b] (compareOp op a b)):=(rfl)
theorem qn3 (op:BoolOp) (vs:List Expr) (pos:Pos) (env:Env):eval (.BoolOp op vs pos) env=boolOp pos op (evalEach vs env):=(rfl)
theorem qn0 (o:Expr) (name:U2) (apos:Pos) (args:List Expr) (kws:List Keyword) (pos:Pos) (env:Env):eval (.Call (.Attribute o name apos) args kws pos) env=(attributeBase o name env (eval o env) >>= λov=>T8 apos.atName >>= λ_=>methodCall o name apos pos env ov (args.length+kws.length) (backTo pos (starEach args env)) (backToKw pos (keywordEach kws env))):=(rfl)
theorem qn2 (id:U2) (ipos:Pos) (args:List Expr) (kws:List Keyword) (pos:Pos) (env:Env):eval (.Call (.Name id ipos) args kws pos) env=(eval (.Name id ipos) env >>= λf=>callWith pos f [] (backTo pos (starEach args env)) (backToKw pos (keywordEach kws env))):=(rfl)
noncomputable def qlh (elt:Expr) (gens:List Comprehension) (scope:Scope) (pos:Pos) (env:Env):Sem T1:=match firstAsync gens,scope.isCoroutine with
 | false,false=>firstIter gens env >>= λx=>T8 (firstIterPos gens pos) >>= λ_=>genexprIterable false (clausesOf (.GeneratorExp elt gens scope pos)) env x >>= λx=>PySem.holding [x] (pyIter x) >>= λit=>j4 >>= λ_=>do
  let cl ←closureFor scope env
  let code ←genexprCode env pos (env.qual++"<genexpr>") scope
  let bu ←builtinsFor env.globals env.builtins
  let cenv ←newFunctionEnv scope env.globals cl [(".0",it)] (env.qual++"<genexpr>.") none code none bu
  newGenerator (.compStart (.GeneratorExp elt gens scope pos) 0 it .none cenv) "<genexpr>" (env.qual++"<genexpr>")
 | _,_=>T7 "genexpr"
theorem qq5 (elt:Expr) (gens:List Comprehension) (scope:Scope) (pos:Pos) (env:Env):eval (.GeneratorExp elt gens scope pos) env=(firstIter gens env >>= λx=>T8 (firstIterPos gens pos) >>= λ_=>genexprIterable (firstAsync gens) (clausesOf (.GeneratorExp elt gens scope pos)) env x >>= λx=>PySem.holding [x] (if firstAsync gens then asyncIter x else pyIter x) >>= λit=>enterFrame >>= λ_=>do
  let cl ←closureFor scope env
  let code ←genexprCode env pos (env.qual++"<genexpr>") scope
  let bu ←builtinsFor env.globals env.builtins
  let cenv ←newFunctionEnv scope env.globals cl [(".0",it)] (env.qual++"<genexpr>.") none code none bu
  (if scope.isCoroutine then newAsyncGenerator else newGenerator) (.compStart (.GeneratorExp elt gens scope pos) 0 it .none cenv) "<genexpr>" (env.qual++"<genexpr>")):=(rfl)
section
variable {prog:T6} {w:T3} {A:Around}
theorem qqV (hd:A.depth<U0) (elt:Expr) (gens:List Comprehension) (scope:Scope) (pos:Pos) (env:Env):LeW prog w A (qlh elt gens scope pos env) (eval (.GeneratorExp elt gens scope pos) env):=by
 unfold qlh
 cases h1:firstAsync gens with
 | true=>exact B7
 | false =>
  cases h2:scope.isCoroutine with
  | true=>exact B7
  | false =>
   rw [qq5,h1,h2]
   exact LeW.bindR λx=>LeW.bindR λ_=>LeW.bindR λx=>LeW.bindR λit=>LeW.bind (qlE hd) λ_=>LeW.refl _
end
end
section
open Sem (wp)
noncomputable def qbo (x:T1):Code := .builtin vr ⟨[x],[(⟨#[]⟩, .none)]⟩
noncomputable def orcV (x:T1):Sem T1 := .call (qbo x) none true [] λr=>match r with
 | .ok f=>match f with
  | .ret v => .pure v
  | _ => .unsupported "orc"
 | .error _ => .unsupported "orc"
noncomputable def orcB (b:Bool):Sem Bool := .call (qbo (.bool b)) none true [] λr=>match r with
 | .ok f=>match f with
  | .ret v=>match v with
   | .bool b => .pure b
   | _ => .unsupported "orc"
  | _ => .unsupported "orc"
 | .error _ => .unsupported "orc"
theorem qkX (x:T1):denote table (qbo x) = .pure (.done (.ret x)):=by
 unfold qbo
 exact qgd x _
section
variable {α β:Type} {prog:T6} {w:T3} {A:Around}
theorem qjs {x:T1} {k:Result→Sem α} {Γ:Ctx} {p:Pos} {s:T2} {Q:α→Pos→T2→Prop} {E:T1→Pos→T2→Prop} (h:wp (model prog w) Γ (.call (qbo x) none true [] k) Q E p s):wp (model prog w) Γ (k (.ok (.ret x))) Q E p s:=by
 rw [Sem.wp_call,wpCode_iff_wp] at h
 rw [show (model prog w).den=denote table from rfl,show (Γ.enter (qbo x) none p).code=qbo x from rfl,qkX,Sem.wp_pure] at h
 exact h
theorem qge {x:T1}:LeW prog w A (orcV x) (pure x):=LeP.le λΓ p s Q E _ h=>qjs h
theorem qcv {b:Bool}:LeW prog w A (orcB b) (pure b):=LeP.le λΓ p s Q E _ h=>qjs h
theorem LeW.orcV {t t':Sem T1} (h:LeW prog w A t' t):LeW prog w A (t' >>= Mine.orcV) t :=
 D5 (LeW.bind h λ_=>qge) (bind_pure t)
theorem LeW.orcB {t t':Sem Bool} (h:LeW prog w A t' t):LeW prog w A (t' >>= Mine.orcB) t :=
 D5 (LeW.bind h λ_=>qcv) (bind_pure t)
end
end
section
open Sem (wp)
noncomputable def qkh (op:Operator) (a b:T1):Sem T1:=match a with
 | .int m t=>match b with
  | .int n u=>match op with
   | .Add=>mkInt (m+n)
   | .Sub=>mkInt (m-n)
   | .Mult=>orcB (M6 (Builtin.Int.intBits m) 64||M6 (Builtin.Int.intBits n) 64) >>= λb=>match b with
    | true=>mkInt (m*n)
    | false=>T7 "binop"
   | .FloorDiv=>match n==0 with
    | true=>T7 "binop"
    | false=>orcB (E4 m n) >>= λb=>match b with
     | true=>T7 "binop"
     | false=>mkInt (m.fdiv n)
   | .Mod=>match n==0 with
    | true=>T7 "binop"
    | false=>mkInt (m.fmod n)
   | op=>binaryOp op (.int m t) (.int n u)
  | b=>binaryOp op (.int m t) b
 | a=>binaryOp op a b
noncomputable def qif (op:CmpOp) (a b:T1):Option Bool:=match a with
 | .int m _=>match b with
  | .int n _=>match op with
   | .Eq=>some (m==n)
   | .NotEq=>some (m != n)
   | .Lt=>some (decide (m<n))
   | .LtE=>some (decide (m≤n))
   | .Gt=>some (decide (m>n))
   | .GtE=>some (decide (m≥n))
   | _=>none
  | _=>none
 | .str x _=>match b with
  | .str y _=>match op with
   | .Eq=>some (x.cps.toList==y.cps.toList)
   | .NotEq=>some (x.cps.toList != y.cps.toList)
   | _=>none
  | _=>none
 | _=>none
noncomputable def qh4 (a b:T1):Option Bool:=match a with
 | .int m _=>match b with
  | .int n _=>some (m==n)
  | _=>none
 | .str x _=>match b with
  | .str y _=>some (decide (x=y))
  | _=>none
 | .bytes x _=>match b with
  | .bytes y _=>some (decide (x.toList=y.toList))
  | _=>none
 | _=>none
noncomputable def qcq (v:T1):Sem Bool:=match v with
 | .int n _=>pure (n != 0)
 | v=>truthy v
section
variable {α β:Type} {prog:T6} {w:T3} {A:Around}
theorem C6 {t' t:Sem α} (h:∀(A₀:Around) (c:Code) (Q:α→T2→Prop) (E:T1→T2→Prop) (s:T2),A₀.under c=A→W prog w A₀ c t' Q E s→wpAny (model prog w) A t Q E s):LeW prog w A t' t:=λA₀ c e Q E s x=>wpOwn_of_wpAny (by rw [e];exact h A₀ c Q E s e x)
theorem qqg {m n:Int} (h:(M6 (Builtin.Int.intBits m) 64||M6 (Builtin.Int.intBits n) 64)=true):IntMulOk m n:=by
 rcases (Bool.or_eq_true _ _).mp h with h | h
 ·exact .of_left (I2 h)
 ·exact .of_right (I2 h)
theorem D0 {b:Bool} {f':Bool→Sem α} {t:Sem α} (h:LeW prog w A (f' b) t):LeW prog w A (Mine.orcB b >>= f') t :=
 D5 (LeW.bind (f:=λa=>if a=b then t else f' a) qcv λa=>by
  by_cases e:a=b
  ·subst e;rw [if_pos rfl];exact h
  ·rw [if_neg e];exact LeW.refl _) (show (if b=b then t else f' b)=t by rw [if_pos rfl])
theorem qlS {op:Operator} {a b:T1}:LeW prog w A (qkh op a b) (binaryOp op a b):=by
 cases a with
 | int m t =>
  cases b with
  | int n u =>
   cases op with
   | Add=>exact C6 λ_ _ _ _ _ _ h=>P.add_int h
   | Sub=>exact C6 λ_ _ _ _ _ _ h=>P.sub_int h
   | Mult=>exact D0 (B3 λhm=>C6 λ_ _ _ _ _ _ h=>P.mul_int h (qqg hm))
   | FloorDiv=>exact C9 λh0=>D0 (C9 λh1=>C6 λ_ _ _ _ _ _ h=>AutoIntOps.floordiv_1 (λe=>J1 (h0.symm.trans e)) (λe=>J1 (h1.symm.trans e)) h)
   | Mod=>exact C9 λh0=>C6 λ_ _ _ _ _ _ h=>AutoIntOps.mod_1 (λe=>J1 (h0.symm.trans e)) h
   | _=>exact LeW.refl _
  | _=>exact LeW.refl _
 | _=>exact LeW.refl _
noncomputable def qdU (o:Option Bool) (P:Bool→Prop):Prop:=match o with
 | some r=>P r
 | none=>True
theorem qdU.at {o:Option Bool} {P:Bool→Prop} {r:Bool} (h:qdU o P) (e:o=some r):P r:=by
 rw [e] at h
 exact h
theorem qka (op:CmpOp) (a b:T1):qdU (qif op a b) λr=>LeW prog w A (pure (.bool r)) (compareOp op a b):=by
 cases a with
 | int =>
  cases b with
  | int =>
   cases op with
   | Eq=>exact C8 λ_ _ _ h=>P.eq_int h
   | NotEq=>exact C8 λ_ _ _ h=>P.ne_int h
   | Lt=>exact C8 λ_ _ _ h=>P.lt_int h
   | LtE=>exact C8 λ_ _ _ h=>P.le_int h
   | Gt=>exact C8 λ_ _ _ h=>P.gt_int h
   | GtE=>exact C8 λ_ _ _ h=>P.ge_int h
   | _=>exact True.intro
  | _=>exact True.intro
 | str =>
  cases b with
  | str =>
   cases op with
   | Eq=>exact C8 λ_ _ _ h=>P.eq_str h
   | NotEq=>exact C8 λ_ _ _ h=>P.ne_str h
   | _=>exact True.intro
  | _=>exact True.intro
 | _=>exact True.intro
theorem qlQ {op:CmpOp} {a b:T1} {r:Bool} (h:qif op a b=some r):LeW prog w A (pure (.bool r)) (compareOp op a b):=by
 exact (qka op a b).at h
theorem qlD (a b:T1):qdU (qh4 a b) λr=>LeW prog w A (pure r) (eqBool a b):=by
 cases a with
 | int=>cases b with
  | int=>exact C8 λ_ _ _ h=>wpAny_eqBool_int h
  | _=>exact True.intro
 | str=>cases b with
  | str=>exact C8 λ_ _ _ h=>wpAny_eqBool_str h
  | _=>exact True.intro
 | bytes=>cases b with
  | bytes=>exact C8 λ_ _ _ h=>eqBool_bytes h
  | _=>exact True.intro
 | _=>exact True.intro
theorem qn4 {a b:T1} {r:Bool} (h:qh4 a b=some r):LeW prog w A (pure r) (eqBool a b):=by
 exact (qlD a b).at h
theorem qiw {v:T1}:LeW prog w A (qcq v) (truthy v):=by
 cases v with
 | int=>exact C8 λ_ _ _ h=>P.truthy_int h
 | _=>exact LeW.refl _
end
end
section
open Sem (wp)
noncomputable def uN {α:Type} (t:Sem α):Sem α:=match t with
 | .stack k=>k []
 | t=>t
noncomputable def qdD (op:CmpOp) (a b:T1):Sem T1:=match [a,b].any Value.onHeap with
 | true=>uN (richCompare op a b)
 | false=>richCompare op a b
noncomputable def uC (op:CmpOp) (a b:T1):Sem T1:=match qif op a b with
 | some r=>pure (.bool r)
 | none=>match op with
  | .Is=>compareOp .Is a b
  | .IsNot=>compareOp .IsNot a b
  | .In=>compareOp .In a b
  | .NotIn=>compareOp .NotIn a b
  | op=>qdD op a b
noncomputable def qii (pos:Pos) (op:BoolOp):List (Sem T1)→Sem T1
 | []=>T7 "internal:empty-boolop"
 | x::rest=>match rest with
  | []=>x
  | _=>x >>= λv=>T8 pos >>= λ_=>(PySem.holding [v] (truthy v) >>= orcB) >>= λt=>match op,t with
   | .And,false=>pure v
   | .Or,true=>pure v
   | _,_=>qii pos op rest
section
variable {α β:Type} {prog:T6} {w:T3} {A:Around}
theorem qg9 (op:CmpOp) (a b:T1):∃rest:Sem T1,richCompare op a b=PySem.holding [a,b] (cRoomFor "comparison" [a,b] >>= λ_=>rest):=⟨_,rfl⟩
theorem qfG {vs:List T1} {what:String} {us:List T1} {rest:Sem α} (hu:A.units<cLine) (hv:us.any Value.onHeap=true):LeW prog w A (uN (PySem.holding vs (cRoomFor what us >>= λ_=>rest))) (PySem.holding vs (cRoomFor what us >>= λ_=>rest)):=by
 have e:uN (PySem.holding vs (cRoomFor what us >>= λ_=>rest))=PySem.holding vs rest:=by
  rw [holding_eq_keep,holding_eq_keep]
  unfold cRoomFor
  rw [hv,if_pos rfl]
  rfl
 rw [e]
 refine LeW.holding ?_
 exact LeW.bind (t':=(pure ():Sem Unit)) (f':=λ_=>rest) (qf8 hu) λ_=>LeW.refl _
theorem qga (hu:A.units<cLine) (op:CmpOp) (a b:T1):LeW prog w A (qdD op a b) (richCompare op a b):=by
 unfold qdD
 split
 ·rename_i h
  obtain ⟨rest,e⟩:=qg9 op a b
  rw [e]
  exact qfG hu h
 ·exact LeW.refl _
theorem qcj (hu:A.units<cLine) (op:CmpOp) (a b:T1):LeW prog w A (uC op a b) (compareOp op a b):=by
 unfold uC
 split
 ·rename_i r h
  exact qlQ h
 ·cases op <;> first | exact LeW.refl _ | exact qga hu _ a b
theorem qc5 {op:CmpOp} {e:Expr} {t t':Sem T1} (h:LeW prog w A t' t):LeW prog w A (markedBehindIn op e t') (markedBehindIn op e t):=by
 unfold markedBehindIn
 split
 ·exact LeW.bind h λ_=>LeW.refl _
 ·exact h
theorem ui {vs:List T1} {t t':Sem T1} (h:LeW prog w A t' t):LeW prog w A (operate vs t') (operate vs t):=LeW.bind (LeW.holding h) λ_=>LeW.refl _
noncomputable def TL (prog:T6) (w:T3) (A:Around):List (Sem T1)→List (Sem T1)→Prop
 | [],[]=>True
 | a::l,b::m=>LeW prog w A a b∧TL prog w A l m
 | _,_=>False
theorem qo3 {pos:Pos} {op:BoolOp}:∀{l m:List (Sem T1)},TL prog w A l m→LeW prog w A (boolOp pos op l) (boolOp pos op m)
 | [],[],_=>LeW.refl _
 | [a],[b],h=>h.1
 | a::c::l,b::d::m,h=>by
  refine LeW.bind h.1 λv=>LeW.bindR λ_=>LeW.bindR λt => ?_
  have z:=qo3 (pos:=pos) (op:=op) h.2
  cases op <;> cases t <;> first | exact LeW.refl _ | exact z
 | [],_::_,h=>h.elim
 | _::_,[],h=>h.elim
 | [_],_::_::_,h=>h.2.elim
 | _::_::_,[_],h=>h.2.elim
theorem qfv {pos:Pos} {op:BoolOp}:∀{l m:List (Sem T1)},TL prog w A l m→LeW prog w A (qii pos op l) (boolOp pos op m)
 | [],[],_=>B7
 | [a],[b],h=>h.1
 | a::c::l,b::d::m,h=>by
  refine LeW.bind h.1 λv=>LeW.bindR λ_=>LeW.bind (LeW.orcB (LeW.refl _)) λt => ?_
  have z:=qfv (pos:=pos) (op:=op) h.2
  cases op <;> cases t <;> first | exact LeW.refl _ | exact z
 | [],_::_,h=>h.elim
 | _::_,[],h=>h.elim
 | [_],_::_::_,h=>h.2.elim
 | _::_::_,[_],h=>h.2.elim
noncomputable def AL (prog:T6) (w:T3) (A:Around):List (Bool×Sem T1)→List (Bool×Sem T1)→Prop
 | [],[]=>True
 | a::l,b::m=>a.1=b.1∧LeW prog w A a.2 b.2∧AL prog w A l m
 | _,_=>False
theorem AL.any:∀{l m:List (Bool×Sem T1)},AL prog w A l m→l.any (·.1)=m.any (·.1)
 | [],[],_=>rfl
 | a::l,b::m,h=>by rw [N0,N0,h.1,AL.any h.2.2]
 | [],_::_,h=>h.elim
 | _::_,[],h=>h.elim
theorem AL.all:∀{l m:List (Bool×Sem T1)},AL prog w A l m→(l.all λx => !x.1)=m.all λx => !x.1
 | [],[],_=>rfl
 | a::l,b::m,h=>by rw [S8,S8,h.1,AL.all h.2.2]
 | [],_::_,h=>h.elim
 | _::_,[],h=>h.elim
theorem AL.len:∀{l m:List (Bool×Sem T1)},AL prog w A l m→l.length=m.length
 | [],[],_=>rfl
 | a::l,b::m,h=>by rw [K7,K7,AL.len h.2.2]
 | [],_::_,h=>h.elim
 | _::_,[],h=>h.elim
theorem jT:∀{l m:List (Bool×Sem T1)},AL prog w A l m→LeW prog w A (spliced l) (spliced m)
 | [],[],_=>LeW.refl _
 | (x,a)::l,(y,b)::m,h=>by
  have e:x=y:=h.1
  subst e
  refine LeW.bind h.2.1 λv => ?_
  cases x with
  | false=>exact LeW.bindR λhere=>LeW.bind (LeW.holding (jT h.2.2)) λ_=>LeW.refl _
  | true =>
   refine LeW.bindR λnb => ?_
   cases nb with
   | false=>exact LeW.bindR λhere=>LeW.bind (LeW.holding (jT h.2.2)) λ_=>LeW.refl _
   | true=>exact LeW.bindR λ_=>LeW.bindR λ_=>LeW.bindR λ_=>LeW.bindR λhere=>LeW.bind (LeW.holding (jT h.2.2)) λ_=>LeW.refl _
 | [],_::_,h=>h.elim
 | _::_,[],h=>h.elim
theorem qo6 {f:T1} {kws:List (Option U2×Sem T1)}:∀{l m:List (Bool×Sem T1)},AL prog w A l m→LeW prog w A (evalArgs f true l kws) (evalArgs f true m kws)
 | [],[],_=>LeW.refl _
 | [(x,a)],[(y,b)],h=>by
  have e:x=y:=h.1
  subst e
  cases x with
  | false=>exact LeW.bind (jT h) λ_=>LeW.refl _
  | true=>exact LeW.bind h.2.1 λ_=>LeW.refl _
 | (x,a)::c::l,(y,b)::d::m,h=>by
  have e:x=y:=h.1
  subst e
  cases x <;> exact LeW.bind (jT h) λ_=>LeW.refl _
 | [],_::_,h=>h.elim
 | _::_,[],h=>h.elim
 | [_],_::_::_,h=>h.2.2.elim
 | _::_::_,[_],h=>h.2.2.elim
theorem qf0 {pos:Pos} {f:T1} {first:List T1} {kws:List (Option U2×Sem T1)} {l m:List (Bool×Sem T1)} (h:AL prog w A l m):LeW prog w A (callWith pos f first l kws) (callWith pos f first m kws):=by
 unfold callWith
 rw [h.any,h.len]
 exact LeW.bind (LeW.holding (qo6 h)) λ_=>LeW.refl _
theorem qnk {o:Expr} {name:U2} {apos pos:Pos} {env:Env} {ov:T1} {n:Nat} {kws:List (Option U2×Sem T1)} {l m:List (Bool×Sem T1)} (h:AL prog w A l m):LeW prog w A (methodCall o name apos pos env ov n l kws) (methodCall o name apos pos env ov n m kws):=by
 have e:methodCallForm n l kws=methodCallForm n m kws:=by
  unfold methodCallForm
  rw [h.all]
 unfold methodCall
 rw [e]
 exact LeW.bindR λx=>LeW.bindR λp=>qf0 h
theorem vS {pos:Pos}:∀{l m:List (Bool×Sem T1)},AL prog w A l m→AL prog w A (backTo pos l) (backTo pos m)
 | [],[],_=>trivial
 | (x,a)::l,(y,b)::m,h=>by
  have e:x=y:=h.1
  subst e
  refine ⟨rfl,?_,vS h.2.2⟩
  cases x with
  | false=>exact h.2.1
  | true=>exact LeW.bind h.2.1 λ_=>LeW.refl _
 | [],_::_,h=>h.elim
 | _::_,[],h=>h.elim
end
end
section
open Sem (wp)
noncomputable def vQ (a b:T1):Sem Bool:=match qh4 a b with
 | some r=>pure r
 | none=>match a with
  | .ref x=>match b with
   | .ref y=>PySem.holding [.ref x, .ref y] (orcB (Value.ref x==Value.ref y) >>= λsame=>match same with
    | true=>rule "eq-bool.same-object" >>= λ_=>pure true
    | false=>qdD .Eq (.ref x) (.ref y) >>= truthOfDropped)
   | b=>eqBool (.ref x) b
  | a=>eqBool a b
noncomputable def qaY (a b:T1):Sem Bool:=vQ a b >>= orcB
noncomputable def qde (args:Args):Sem PySem.Fin:=match args.pos with
 | [self,x,i]=>match i with
  | .int i _=>Builtin.List.listItems self >>= λxs=>match xs[i.toNat]? with
   | none=>ret (.bool false)
   | some y=>qaY y x >>= λb=>match b with
    | true=>ret (.bool true)
    | false=>again (.builtin "list.__contains__.loop" ⟨[self,x,rawInt (i+1)],[]⟩)
  | _=>T7 "in"
 | _=>T7 "in"
noncomputable def qaX (op:CmpOp) (a b:T1) (i:Int) (code:Int):Sem PySem.Fin:=Builtin.List.listItems a >>= λxs=>Builtin.List.listItems b >>= λys=>match xs[i.toNat]? with
 | some x=>match ys[i.toNat]? with
  | some y=>qaY x y >>= λe=>match e with
   | true=>again (.builtin "list.__eq__.loop" ⟨[a,b,rawInt (i+1),rawInt code],[]⟩)
   | false=>Builtin.List.listItems a >>= λxs=>Builtin.List.listItems b >>= λys=>match xs[i.toNat]? with
    | some _=>match ys[i.toNat]? with
     | some _=>ret (.bool (op == .NotEq))
     | none=>T7 "eq"
    | none=>T7 "eq"
  | none=>Builtin.List.listItems a >>= λxs=>Builtin.List.listItems b >>= λys=>ret (.bool (match op with
   | .Eq=>xs.size==ys.size
   | _=>xs.size != ys.size))
 | none=>Builtin.List.listItems a >>= λxs=>Builtin.List.listItems b >>= λys=>ret (.bool (match op with
  | .Eq=>xs.size==ys.size
  | _=>xs.size != ys.size))
noncomputable def qgp (args:Args):Sem PySem.Fin:=match args.pos with
 | [a,b,i,code]=>match i with
  | .int i _=>match code with
   | .int code _=>match decide (code=2) with
    | true=>qaX .Eq a b i code
    | false=>match decide (code=3) with
     | true=>qaX .NotEq a b i code
     | false=>T7 "eq"
   | _=>T7 "eq"
  | _=>T7 "eq"
 | _=>T7 "eq"
noncomputable def qiC (v:T1):Sem T1:=match v with
 | .ref a=>uN (Builtin.Str.strOf (.ref a))
 | v=>Builtin.Str.strOf v
noncomputable def qgl (args:Args):Sem PySem.Fin:=match args.pos with
 | [cls,x]=>match cls with
  | .type n=>match args.kw with
   | []=>match decide (n="str") with
    | true=>isType (.type n) >>= λb=>match b with
     | true=>isSubtype (.type n) (.type "str") >>= λb=>match b with
      | true=>Builtin.Str.bindOptional "str.__new__" "str" 0 ["object","encoding","errors"] [x] [] >>= λl=>match l with
       | [o,e,r]=>match o with
        | some x=>match e with
         | none=>match r with
          | none=>qiC x >>= λmade=>ret made
          | some _=>T7 "str"
         | some _=>T7 "str"
        | none=>T7 "str"
       | _=>T7 "str"
      | false=>T7 "str"
     | false=>T7 "str"
    | false=>T7 "str"
   | _=>T7 "str"
  | _=>T7 "str"
 | _=>T7 "str"
section
variable {α β:Type} {prog:T6} {w:T3} {A:Around}
theorem qfl (x y:Addr):eqBool (.ref x) (.ref y)=PySem.holding [.ref x, .ref y] (if (Value.ref x==Value.ref y)=true then (rule "eq-bool.same-object" >>= λ_=>pure true) else (richCompare .Eq (.ref x) (.ref y) >>= truthOfDropped)):=(rfl)
theorem qat (hu:A.units<cLine) {a b:T1}:LeW prog w A (vQ a b) (eqBool a b):=by
 unfold vQ
 cases h:qh4 a b with
 | some r=>exact qn4 h
 | none =>
  cases a with
  | ref x =>
   cases b with
   | ref y =>
    rw [qfl]
    exact LeW.holding (D0 (D7 (LeW.refl _) (LeW.bind (qga hu _ _ _) λ_=>LeW.refl _)))
   | _=>exact LeW.refl _
  | _=>exact LeW.refl _
theorem uz (hu:A.units<cLine) {a b:T1}:LeW prog w A (qaY a b) (eqBool a b):=LeW.orcB (qat hu)
theorem qfU (hu:A.units<cLine) {args:Args}:LeW prog w A (qde args) (Builtin.«list.__contains__.loop» args):=by
 refine LeW.ps3 λself x i hp=>B8 λi t e => ?_
 obtain ⟨ps,kw⟩:=args
 cases hp
 rw [e]
 refine LeW.bindR λxs => ?_
 cases xs[i.toNat]? with
 | none=>exact LeW.refl _
 | some y=>exact LeW.bind (uz hu) λb=>D7 (LeW.refl _) (LeW.refl _)
theorem qch (hu:A.units<cLine) {op:CmpOp} {a b:T1} {i code:Int} {t u:U1} {kw:List (U2×T1)} (h:code=2∧op = .Eq∨code=3∧op = .NotEq):LeW prog w A (qaX op a b i code) (Builtin.«list.__eq__.loop» ⟨[a,b, .int i t, .int code u],kw⟩):=by
 rcases h with ⟨rfl,rfl⟩ | ⟨rfl,rfl⟩ <;>
 ·unfold qaX
  refine LeW.bindR λxs=>LeW.bindR λys => ?_
  cases xs[i.toNat]? with
  | none=>exact LeW.refl _
  | some x =>
   cases ys[i.toNat]? with
   | none=>exact LeW.refl _
   | some y =>
    refine LeW.bind (uz hu) λe=>D7 (LeW.refl _) (LeW.bindR λxs=>LeW.bindR λys => ?_)
    cases xs[i.toNat]? with
    | none=>exact B7
    | some x =>
     cases ys[i.toNat]? with
     | none=>exact B7
     | some y=>exact LeW.refl _
theorem qj1 (hu:A.units<cLine) {args:Args}:LeW prog w A (qgp args) (Builtin.«list.__eq__.loop» args):=by
 refine D1 λa b i code hp=>B8 λi t e1=>B8 λcode u e2 => ?_
 obtain ⟨ps,kw⟩:=args
 cases hp
 rw [e1,e2]
 cases hc:decide (code=2)
 ·exact B3 λhc=>qch hu (.inr ⟨of_decide_eq_true hc,rfl⟩)
 ·exact qch hu (.inl ⟨of_decide_eq_true hc,rfl⟩)
theorem qkI (hu:A.units<cLine) {v:T1}:LeW prog w A (qiC v) (Builtin.Str.strOf v):=by
 cases v with
 | ref a =>
  obtain ⟨rest,e⟩:∃rest:Sem T1,Builtin.Str.strOf (.ref a)=(cRoomFor "str" [.ref a] >>= λ_=>rest):=⟨_,rfl⟩
  show LeW prog w A (uN (Builtin.Str.strOf (.ref a))) _
  rw [e]
  exact LeW.bind (t':=(pure ():Sem Unit)) (f':=λ_=>rest) (qf8 hu) λ_=>LeW.refl _
 | _=>exact LeW.refl _
theorem qjA (hu:A.units<cLine) {args:Args}:LeW prog w A (qgl args) (Builtin.«str.__new__» args):=by
 refine C7 λcls x hp=>C5 λn e=>B9 λhk=>B3 λhn => ?_
 obtain ⟨ps,kw⟩:=args
 cases hk
 cases hp
 rw [e,of_decide_eq_true hn]
 refine LeW.bindR λb=>B3 λhb => ?_
 rw [hb]
 refine LeW.bindR λb=>B3 λhb => ?_
 rw [hb]
 refine LeW.bindR (t:=Builtin.Str.bindOptional "str.__new__" "str" 0 ["object","encoding","errors"] [x] []) λl => ?_
 cases l with
 | nil=>exact B7
 | cons o l=>cases l with
  | nil=>exact B7
  | cons e l=>cases l with
   | nil=>exact B7
   | cons r l=>cases l with
    | cons=>exact B7
    | nil=>cases o with
     | none=>exact B7
     | some x=>cases e with
      | some=>exact B7
      | none=>cases r with
       | some=>exact B7
       | none=>exact LeW.bind (qkI hu) λ_=>LeW.refl _
noncomputable def ql1 (a b:T1):Sem PySem.Fin:=isInstance b (.type "tuple") >>= λt=>match t with
 | true=>Builtin.Tuple.tupleItemsOf a >>= λxs=>Builtin.Tuple.tupleItemsOf b >>= λys=>match xs.toList with
  | [x1,x2]=>match ys.toList with
   | [y1,y2]=>vQ x1 y1 >>= λe=>match e with
    | false=>ret (.bool true)
    | true=>vQ x2 y2 >>= λe=>match e with
     | false=>ret (.bool true)
     | true=>ret (.bool (xs.size != ys.size))
   | _=>T7 "tuple"
  | _=>T7 "tuple"
 | false=>T7 "tuple"
noncomputable def qdY (args:Args):Sem PySem.Fin:=slotArgs "__ne__" 1 args >>= λr=>match r.2 with
 | [b]=>ql1 r.1 b
 | _=>T7 "tuple"
theorem qkz (hu:A.units<cLine) {args:Args}:LeW prog w A (qdY args) (Builtin.«tuple.__ne__» args):=by
 unfold qdY Builtin.«tuple.__ne__»
 refine LeW.bindR λr => ?_
 obtain ⟨a,bs⟩:=r
 split
 ·rename_i b hb
  have hb:bs=[b]:=hb
  subst hb
  unfold ql1
  refine LeW.bindR λt => ?_
  cases t
  ·exact B7
  refine LeW.bindR λxs=>LeW.bindR λys => ?_
  split
  ·rename_i x1 x2 hx
   split
   ·rename_i y1 y2 hy
    rw [hx,hy]
    refine D5 (t:=eqBool x1 y1 >>= λe=>match e with
     | false=>ret (.bool true)
     | true=>eqBool x2 y2 >>= λe=>match e with
      | false=>ret (.bool true)
      | true=>ret (.bool (xs.size != ys.size))) ?_ ?_
    ·refine LeW.bind (qat hu) λe => ?_
     cases e
     ·exact LeW.refl _
     ·refine LeW.bind (qat hu) λe => ?_
      cases e <;> exact LeW.refl _
    ·simp only [List.zip_cons_cons,List.zip_nil_right,L0,M7,bind_assoc,pure_bind]
     refine bind_congr λe => ?_
     cases e
     ·rfl
     ·simp only [Bool.not_true,K3,↓reduceIte,pure_bind,bind_assoc]
      refine bind_congr λe => ?_
      cases e <;> rfl
   ·exact B7
  ·exact B7
 ·exact B7
end
end
section
open Sem (wp)
noncomputable def wV (i:Int):Bool:=decide (-(2 ^ 63)≤i)&&decide (i<2 ^ 63)
noncomputable def qgh (st:T1) (k:Sem PySem.Fin):Sem PySem.Fin:=isInstance st (.type "str") >>= λb=>match b with
 | true=>T7 "sum"
 | false=>isInstance st (.type "bytes") >>= λb=>match b with
  | true=>T7 "sum"
  | false=>isInstance st (.type "bytearray") >>= λb=>match b with
   | true=>T7 "sum"
   | false=>k
noncomputable def vZ (it st:T1):Sem PySem.Fin:=qgh st (newList [st] >>= λl=>again (.builtin "sum.loop" ⟨[it,l,rawInt 0,rawInt 0],[]⟩))
noncomputable def qpw (args:Args):Sem PySem.Fin:=match args.kw with
 | []=>match args.pos with
  | [x]=>Builtin.Builtins.bindParams "sum" ["start"] 0 ⟨[],[]⟩ >>= λl=>match l with
   | [o]=>match o with
    | none=>pyIter x >>= λit=>mkInt 0 >>= λst=>vZ it st
    | some _=>T7 "sum"
   | _=>T7 "sum"
  | [x,s]=>Builtin.Builtins.bindParams "sum" ["start"] 0 ⟨[s],[]⟩ >>= λl=>match l with
   | [o]=>match o with
    | some v=>match v with
     | .int i t=>pyIter x >>= λit=>orcB (wV i) >>= λb=>match b with
      | true=>rule "sum.start-copied" >>= λ_=>mkInt i >>= λst=>vZ it st
      | false=>T7 "sum"
     | _=>T7 "sum"
    | none=>T7 "sum"
   | _=>T7 "sum"
  | _=>T7 "sum"
 | _=>T7 "sum"
noncomputable def qd1 (args:Args):Sem PySem.Fin:=match args.pos with
 | [it,st,stage,comp]=>match st with
  | .ref state=>match stage with
   | .int stage _=>match comp with
    | .int comp _=>match stage==0 with
     | true=>seqItems? (.ref state) >>= λxs=>match (xs.getD #[])[0]? with
      | some total=>match total with
       | .int a ta=>(pyNext it).tryCatch (λe=>updateSeq state (λ_ => #[]) >>= λ_=>letGo [.int a ta] [e] >>= λ_=>throw e) >>= λitem=>match item with
        | none=>ret (.int a ta)
        | some v=>match v with
         | .int b tb=>orcB (wV b&&wV (a+b)) >>= λf=>match f with
          | true=>mkInt (a+b) >>= λtotal=>updateSeq state (λ_ => #[total]) >>= λ_=>again (.builtin "sum.loop" ⟨[it, .ref state,rawInt 0,rawInt 0],[]⟩)
          | false=>T7 "sum"
         | _=>T7 "sum"
       | _=>T7 "sum"
      | none=>T7 "sum"
     | false=>T7 "sum"
    | _=>T7 "sum"
   | _=>T7 "sum"
  | _=>T7 "sum"
 | _=>T7 "sum"
noncomputable def qjR (args:Args):Sem PySem.Fin:=match args.pos with
 | [self,value,i,stop]=>match i with
  | .int i _=>match stop with
   | .int stop _=>Builtin.List.listItems self >>= λxs=>match decide (i<stop) with
    | true=>match xs[i.toNat]? with
     | some x=>qaY x value >>= λb=>match b with
      | true=>retInt i
      | false=>again (.builtin "list.index.loop" ⟨[self,value,rawInt (i+1),rawInt stop],[]⟩)
     | none=>T7 "index"
    | false=>T7 "index"
   | _=>T7 "index"
  | _=>T7 "index"
 | _=>T7 "index"
section
variable {α β:Type} {prog:T6} {w:T3} {A:Around}
theorem qlb (hu:A.units<cLine) {args:Args}:LeW prog w A (qjR args) (Builtin.«list.index.loop» args):=by
 refine D1 λself value i stop hp=>B8 λi t e1=>B8 λstop u e2 => ?_
 obtain ⟨ps,kw⟩:=args
 cases hp
 rw [e1,e2]
 refine LeW.bindR λxs=>B3 λh1 => ?_
 rw [if_pos (of_decide_eq_true h1)]
 cases xs[i.toNat]? with
 | none=>exact B7
 | some x=>exact LeW.bind (uz hu) λb=>D7 (LeW.refl _) (LeW.refl _)
theorem qa2 {it st:T1}:LeW prog w A (vZ it st) (do
  for (ty,what,hint) in [("str","strings","''"),("bytes","bytes","b''"),("bytearray","bytearray","b''")] do
   if ←isInstance st (.type ty) then
    rule "sum.start-refused";raiseError "TypeError" s!"sum() can't sum {what} [use {hint}.join(seq) instead]"
  again (.builtin "sum.loop" ⟨[it,←newList [st],rawInt 0,rawInt 0],[]⟩)):=by
 unfold vZ qgh
 simp only [L0,M7,bind_assoc]
 refine LeW.bindR λb => ?_
 cases b with
 | true=>exact B7
 | false =>
  rw [if_neg F7]
  simp only [pure_bind,bind_assoc]
  refine LeW.bindR λb => ?_
  cases b with
  | true=>exact B7
  | false =>
   rw [if_neg F7]
   simp only [pure_bind,bind_assoc]
   refine LeW.bindR λb => ?_
   cases b with
   | true=>exact B7
   | false=>exact LeW.refl _
theorem qpv {args:Args}:LeW prog w A (qpw args) (Builtin.«sum» args):=by
 refine B9 λhk => ?_
 obtain ⟨ps,kw⟩:=args
 cases hk
 cases ps with
 | nil=>exact B7
 | cons x ps =>
  cases ps with
  | nil =>
   refine LeW.bindR (t:=Builtin.Builtins.bindParams "sum" ["start"] 0 ⟨[],[]⟩) λl => ?_
   cases l with
   | nil=>exact B7
   | cons o l =>
    cases l with
    | cons=>exact B7
    | nil =>
     cases o with
     | some=>exact B7
     | none =>
      exact LeW.bindR λit=>LeW.bindR (t:=mkInt 0) λst=>qa2
  | cons s ps =>
   cases ps with
   | cons=>exact B7
   | nil =>
    refine LeW.bindR (t:=Builtin.Builtins.bindParams "sum" ["start"] 0 ⟨[s],[]⟩) λl => ?_
    cases l with
    | nil=>exact B7
    | cons o l =>
     cases l with
     | cons=>exact B7
     | nil =>
      cases o with
      | none=>exact B7
      | some v =>
       cases v with
       | int i t =>
        refine LeW.bindR λit=>D0 ?_
        cases hf:wV i
        ·exact B7
        ·exact D5 (LeW.bindR λ_=>LeW.bindR (t:=mkInt i) λst=>qa2) (if_pos hf).symm
       | _=>exact B7
theorem qgJ {args:Args}:LeW prog w A (qd1 args) (Builtin.«sum.loop» args):=by
 refine D1 λit st stage comp hp=>B6 λstate e1=>B8 λstage ts e2=>B8 λcomp tc e3=>B3 λhs => ?_
 obtain ⟨ps,kw⟩:=args
 cases hp
 obtain rfl:stage=0:=eq_of_beq hs
 rw [e1,e2,e3]
 refine LeW.bindR λxs => ?_
 cases (xs.getD #[])[0]? with
 | none=>exact B7
 | some total =>
  cases total with
  | int a ta =>
   refine LeW.bindR λitem => ?_
   cases item with
   | none=>exact LeW.refl _
   | some v =>
    cases v with
    | int b tb=>exact D0 (D9 (LeW.refl _))
    | _=>exact B7
  | _=>exact B7
end
end
section
open Sem (wp)
noncomputable def compsN:Sem (List Env) := .stack λl=>match l with
 | [] => .unsupported "super"
 | x::_=>match x.1 with
  | .func _ _ => .pure []
  | _ => .unsupported "super"
noncomputable def qf4 (first:U2) (env:Env) (pos:Pos):Sem T1:=rule "super.attribute-form" >>= λ_=>T8 pos >>= λ_=>loadName env "super" >>= λg=>loadName env "__class__" >>= λcls=>compsN >>= λcs=>loadName (env.holderOf cs first) first >>= λself=>isType cls >>= λaType=>if (g == .type "super"&&aType)=true then call g [cls,self] else PySem.holding [cls,self] (call g [])
noncomputable def qdo (program:T6) (file:U2):Option Module:=if (program.main.file==file)=true then some program.main else (program.modules.find? λ(n,_,m)=>m.file==file||("<frozen "++n++">":U2)==file).map (·.2.2)
noncomputable def qpu (top:Option Module) (first:U2) (env:Env) (pos:Pos):Sem T1:=match top with
 | none=>T7 "super"
 | some top=>match (top.scope.names.lookup ("super":U2)).isSome with
  | true=>T7 "super"
  | false=>qf4 first env pos
noncomputable def qsU (file:T1) (program:T6) (first:U2) (env:Env) (pos:Pos):Sem T1:=match file with
 | .str file _=>qpu (qdo program file) first env pos
 | _=>T7 "super"
noncomputable def qsT (first:Option Arg) (env:Env) (pos:Pos):Sem T1:=match first with
 | none=>T7 "super"
 | some first=>ask >>= λst=>(match env.code with | .none=>pure .none | c=>field c 2) >>= λfile=>qsU file st.program first.arg env pos
noncomputable def qkG (id attr:U2) (env:Env) (pos:Pos) (whole:Sem T1):Sem T1:=match (id != "super"||attr=="__class__"||env.kindOf "super" != some .globalImplicit||env.kindOf "__class__" != some .free) with
 | true=>whole
 | false=>match env.func with
  | none=>T7 "super"
  | some f=>funcData (.ref f) >>= λfd=>qsT (fd.params.posonlyargs++fd.params.args).head? env pos
noncomputable def qdh (o:Expr) (attr:U2) (env:Env) (whole:Sem T1):Sem T1:=match o with
 | .Call f as ks pos=>match f with
  | .Name id _=>match as with
   | []=>match ks with
    | []=>qkG id attr env pos whole
    | _=>whole
   | _=>whole
  | _=>whole
 | _=>whole
section
variable {α β:Type} {prog:T6} {w:T3} {A:Around}
theorem qlP:LeW prog w A compsN comprehensionsAround:=λA₀ c e Q E s h=>by
 have h:=h default []
 cases c with
 | func body env=>exact λΓ p hc hΓ=>ks_wpAt_noComps (show Q [] s from h) Γ p hc (hc▸hΓ.in)
 | _=>exact (show False from h).elim
theorem qpt {id attr:U2} {ip pos:Pos} {env:Env} {whole:Sem T1}:LeW prog w A (qkG id attr env pos whole) (attributeBase (.Call (.Name id ip) [] [] pos) attr env whole):=by
 unfold qkG
 show LeW prog w A _ (if (id != "super"||attr=="__class__"||env.kindOf "super" != some .globalImplicit||env.kindOf "__class__" != some .free)=true then whole else _)
 cases h:(id != "super"||attr=="__class__"||env.kindOf "super" != some .globalImplicit||env.kindOf "__class__" != some .free) with
 | true=>exact LeW.refl _
 | false =>
  have hc:(env.kindOf (Str.ofString "__class__") != some NameKind.free)=false:=(Q2.mp h).2
  rw [if_neg F7]
  cases hf:env.func with
  | none=>exact B7
  | some f =>
   simp only [Option.isSome_some,↓reduceIte,pure_bind,hf,hc,K3]
   refine LeW.bindR λfd => ?_
   cases (fd.params.posonlyargs++fd.params.args).head? with
   | none=>exact B7
   | some first =>
    refine LeW.bindR λst=>LeW.bindR λfile => ?_
    cases file with
    | str file tok =>
     show LeW prog w A (qpu (qdo st.program file) first.arg env pos) (match qdo st.program file with | some top=>_ | _=>_)
     cases qdo st.program file with
     | none=>exact B7
     | some top =>
      show LeW prog w A (match (top.scope.names.lookup ("super":U2)).isSome with
       | true=>T7 "super"
       | false=>qf4 first.arg env pos) (if (top.scope.names.lookup ("super":U2)).isSome=true then _ else _)
      cases (top.scope.names.lookup ("super":U2)).isSome with
      | true=>exact B7
      | false=>exact LeW.bindR λ_=>LeW.bindR λ_=>LeW.bindR λg=>LeW.bindR λcls=>LeW.bind qlP λcs=>LeW.refl _
    | _=>exact B7
theorem qkF {o:Expr} {attr:U2} {env:Env} {whole:Sem T1}:LeW prog w A (qdh o attr env whole) (attributeBase o attr env whole):=by
 cases o with
 | Call f as ks pos =>
  cases f with
  | Name id ip =>
   cases as with
   | cons=>exact LeW.refl _
   | nil =>
    cases ks with
    | cons=>exact LeW.refl _
    | nil=>exact qpt
  | _=>exact LeW.refl _
 | _=>exact LeW.refl _
end
noncomputable def qbi:List String:=["set","frozenset","dict","dict_keys","dict_values","dict_items"]
noncomputable def isL (t:T1):Bool:=t == .type "list"||t == .type "tuple"
noncomputable def qcM (it result:T1) (a:Addr) (t:T1):Sem PySem.Fin:=pyIter it >>= λiter=>PySem.holding [iter] (Builtin.List.listLengthHint it) >>= λroom=>match (room||qbi.any (t == .type ·)) with
 | true=>rule "list.extend.makes-room" >>= λ_=>Builtin.List.listTouch (.ref a) >>= λ_=>again (.builtin "list.extend.loop" ⟨[.ref a,iter,result],[]⟩)
 | false=>again (.builtin "list.extend.loop" ⟨[.ref a,iter,result],[]⟩)
noncomputable def qcN (it result:T1) (a:Addr):Sem PySem.Fin:=Builtin.List.listItems it >>= λxs=>Builtin.List.listItems (.ref a) >>= λmine=>match (!mine.isEmpty&&Builtin.List.listTooLong (mine.size+xs.size)) with
 | true=>T7 "extend"
 | false=>Builtin.List.listUpdate (.ref a) (· ++ xs) >>= λ_=>ret result
noncomputable def qaW (self it result:T1):Sem PySem.Fin:=match self with
 | .ref a=>match it with
  | .ref b=>typeOf (.ref b) >>= λt=>match isL t with
   | true=>qcN (.ref b) result a
   | false=>typeOf (.ref a) >>= λts=>match isL ts with
    | true=>qcM (.ref b) result a t
    | false=>T7 "extend"
  | _=>T7 "extend"
 | _=>T7 "extend"
noncomputable def qeP (args:Args):Sem PySem.Fin:=match args.kw with
 | []=>match args.pos with
  | [self,it]=>qaW self it .none
  | _=>T7 "extend"
 | _=>T7 "extend"
noncomputable def qc7 (args:Args):Sem PySem.Fin:=match args.kw with
 | []=>match args.pos with
  | [self,it]=>qaW self it self
  | _=>T7 "extend"
 | _=>T7 "extend"
noncomputable def qc6 (args:Args):Sem PySem.Fin:=match args.kw with
 | []=>match args.pos with
  | [self,it]=>Builtin.List.listItems self >>= λold=>Builtin.List.listUpdate self (λ_ => #[]) >>= λ_=>letGo old.toList.reverse >>= λ_=>qaW self it .none
  | [self]=>Builtin.«list.__init__» ⟨[self],[]⟩
  | _=>T7 "init"
 | _=>T7 "init"
noncomputable def qk5 (args:Args):Sem PySem.Fin:=oneArg "len" args >>= λx=>callSpecial? x "__len__" >>= λr=>match r with
 | some r=>PySem.holding [r] (asIndex r) >>= λn=>letGo [r] >>= λ_=>orcB (decide (n<0)) >>= λb=>match b with
  | true=>T7 "len"
  | false=>orcB (decide (n≥2 ^ 63)) >>= λb=>match b with
   | true=>T7 "len"
   | false=>retInt n
 | none=>T7 "len"
noncomputable def qeW (v:T1):Sem (Array T1):=match v with
 | .ref b=>typeOf (.ref b) >>= λt=>match isL t with
  | true=>Builtin.List.listItems (.ref b)
  | false=>T7 "set"
 | _=>T7 "set"
noncomputable def uQ (self i v:T1):Sem PySem.Fin:=Builtin.List.listSubscript? i >>= λk=>match k with
 | some _=>T7 "set"
 | none=>typeOf i >>= λt=>match t != .type "slice" with
  | true=>T7 "set"
  | false=>Builtin.List.listSliceParts i >>= λp=>qeW v >>= λnew=>Builtin.List.listItems self >>= λxs=>sliceIndices p.1 p.2.1 p.2.2 xs.size >>= λq=>match q.2.2==1 with
    | true=>rule "list.__setitem__.slice" >>= λ_=>match Builtin.List.listTooLong (xs.size+new.size) with
     | true=>T7 "set"
     | false=>Builtin.List.listUpdate self (λxs=>xs.extract 0 q.1.toNat++new++xs.extract (max q.1 q.2.1).toNat xs.size) >>= λ_=>letGo (xs.extract q.1.toNat (max q.1 q.2.1).toNat).toList.reverse >>= λ_=>ret .none
    | false=>T7 "set"
noncomputable def qd5 (args:Args):Sem PySem.Fin:=match args.pos with
 | [self,i,v]=>match i with
  | .ref s=>match args.kw with
   | []=>uQ self (.ref s) v
   | _=>T7 "set"
  | i=>Builtin.«list.__setitem__» args
 | _=>T7 "set"
section
variable {α β:Type} {prog:T6} {w:T3} {A:Around}
theorem qfF {a:Addr} {f:T1→Sem α} {A₀:Around} {c:Code} {Q:α→T2→Prop} {E:T1→T2→Prop} {s:T2} (h:W prog w A₀ c (typeOf (.ref a) >>= f) Q E s):∃o,s.heap.get? a=some o∧W prog w A₀ c (f o.cls) Q E s:=h
theorem LeW.dropT {a:Addr} {f:T1→Sem α} {t:Sem α} (h:∀v,LeW prog w A (f v) t):LeW prog w A (typeOf (.ref a) >>= f) t:=λA₀ c e Q E s x=>by
 obtain ⟨o,ho,x⟩:=qfF x
 exact h _ A₀ c e Q E s x
theorem qkV {a:Addr} {o:Obj} {f:T1→Sem α} {A₀:Around} {c:Code} {Q:α→T2→Prop} {E:T1→T2→Prop} {s:T2} (ho:s.heap.get? a=some o) (h:wpOwn (model prog w) A₀ c (f o.cls) Q E s):wpOwn (model prog w) A₀ c (typeOf (.ref a) >>= f) Q E s :=
 wpOwn_bind (m:=loadPart a (some headPart)) (f:=λo=>f o.cls) (wpOwn_of_wpAny (wpAny_loadPart ho h))
theorem qh0 {it result:T1} {a:Addr}:LeW prog w A (qcN it result a) (do
  let xs ←Builtin.List.listItems it
  let mine ←Builtin.List.listItems (.ref a)
  if !mine.isEmpty&&Builtin.List.listTooLong (mine.size+xs.size) then T7 "list.extend:memory"
  Builtin.List.listUpdate (.ref a) (· ++ xs)
  ret result):=by
 unfold qcN
 refine LeW.bindR λxs=>LeW.bindR λmine => ?_
 cases (!mine.isEmpty&&Builtin.List.listTooLong (mine.size+xs.size))
 ·exact LeW.refl _
 ·exact B7
theorem qhZ {it result t:T1} {a:Addr}:LeW prog w A (qcM it result a t) (do
  let iter ←pyIter it
  let room ←PySem.holding [iter] (Builtin.List.listLengthHint it)
  if room||qbi.any (t == .type ·) then rule "list.extend.makes-room";Builtin.List.listTouch (.ref a)
  again (.builtin "list.extend.loop" ⟨[.ref a,iter,result],[]⟩)):=by
 unfold qcM
 refine LeW.bindR λiter=>LeW.bindR λroom => ?_
 cases (room||qbi.any (t == .type ·)) <;> exact LeW.refl _
theorem qas {self it result:T1}:LeW prog w A (qaW self it result) (Builtin.List.listExtendWith self it result):=by
 refine B6 λa e1=>B6 λb e2 => ?_
 rw [e1,e2]
 intro A₀ c e Q E s x
 obtain ⟨o,ho,x⟩:=qfF x
 unfold Builtin.List.listExtendWith
 refine qkV ho ?_
 have e3:(Builtin.List.listSameRef (.ref a) (.ref b)||o.cls == .type "list"||o.cls == .type "tuple")=((a==b)||isL o.cls):=by
  unfold isL
  rw [Bool.or_assoc];rfl
 rw [e3]
 cases hL:isL o.cls with
 | true =>
  rw [hL] at x
  rw [M4,if_pos rfl]
  exact qh0 A₀ c e Q E s x
 | false =>
  rw [hL] at x
  obtain ⟨o2,ho2,x⟩:=qfF x
  cases hL2:isL o2.cls with
  | false=>rw [hL2] at x;exact (show False from x).elim
  | true =>
   rw [hL2] at x
   have hne:a≠b:=by
    intro q
    rw [q,ho] at ho2
    rw [←Option.some.inj ho2,hL] at hL2
    exact J1 hL2
   rw [beq_false_of_ne hne,Q4,if_neg F7]
   exact qhZ A₀ c e Q E s x
theorem qhF {args:Args}:LeW prog w A (qeP args) (Builtin.«list.extend» args):=by
 exact B9 λhk=>C7 λself it hp=>LeW.args (f:=Builtin.«list.extend») hk hp qas
theorem qfP {args:Args}:LeW prog w A (qc7 args) (Builtin.«list.__iadd__» args):=by
 exact B9 λhk=>C7 λself it hp=>LeW.args (f:=Builtin.«list.__iadd__») hk hp qas
theorem qfO {args:Args}:LeW prog w A (qc6 args) (Builtin.«list.__init__» args):=by
 refine B9 λhk => ?_
 obtain ⟨ps,kw⟩:=args
 cases hk
 cases ps with
 | nil=>exact B7
 | cons self l=>cases l with
  | nil=>exact LeW.refl _
  | cons it l=>cases l with
   | nil=>exact D5 (LeW.bindR (t:=Builtin.List.listItems self) λold=>LeW.bindR λ_=>LeW.bindR λ_=>qas) rfl
   | cons=>exact B7
theorem qqq {args:Args}:LeW prog w A (qk5 args) (Builtin.«len» args):=by
 unfold qk5 Builtin.«len»
 refine LeW.bindR λx=>LeW.bindR λr => ?_
 cases r with
 | none=>exact B7
 | some r =>
  refine LeW.bindR λn=>LeW.bindR λ_=>D0 ?_
  split
  ·exact B7
  ·rename_i h
   have h:¬n<0:=of_decide_eq_false h
   rw [if_neg h]
   refine D0 ?_
   split
   ·exact B7
   ·rename_i h2
    have h2:¬n≥2 ^ 63:=of_decide_eq_false h2
    rw [if_neg h2]
    exact LeW.refl _
theorem qla {v:T1}:LeW prog w A (qeW v) (Builtin.List.listItems v):=by
 refine B6 λa e => ?_
 rw [e]
 refine LeW.dropT λt => ?_
 cases isL t
 ·exact B7
 ·exact LeW.refl _
theorem qfY {v:T1} {msg:String}:LeW prog w A (qeW v) (Builtin.List.listAllItems v msg):=by
 refine B6 λa e => ?_
 rw [e]
 unfold Builtin.List.listAllItems
 refine LeW.bindR λt => ?_
 cases h:isL t
 ·exact B7
 ·exact D5 (LeW.refl _) (if_pos (show (t == .type "list"||t == .type "tuple")=true from h)).symm
theorem qfK {self v:T1} {s:Addr}:LeW prog w A (uQ self (.ref s) v) (Builtin.«list.__setitem__» ⟨[self, .ref s,v],[]⟩):=by
 unfold uQ Builtin.«list.__setitem__»
 rw [show Builtin.List.listBlankSlotArgs "__setitem__" 2 ⟨[self, .ref s,v],[]⟩=pure (self,[.ref s,v]) from rfl,pure_bind]
 refine LeW.bindR λk => ?_
 cases k with
 | some k=>exact B7
 | none =>
  refine LeW.bindR λt => ?_
  cases (t != .type "slice") with
  | true=>exact B7
  | false =>
   rw [if_neg F7]
   refine LeW.bindR λp => ?_
   cases Builtin.List.listSameRef self v with
   | true=>exact LeW.bind qla λnew=>LeW.bindR λxs=>LeW.bindR λq=>D9 (LeW.bindR λ_=>LeW.ifF (LeW.refl _))
   | false=>exact LeW.bind qfY λnew=>LeW.bindR λxs=>LeW.bindR λq=>D9 (LeW.bindR λ_=>LeW.ifF (LeW.refl _))
theorem qgN {args:Args}:LeW prog w A (qd5 args) (Builtin.«list.__setitem__» args):=by
 refine LeW.ps3 λself i v hp => ?_
 cases i with
 | ref s=>exact B9 λhk=>LeW.args (f:=Builtin.«list.__setitem__») hk hp qfK
 | _=>exact LeW.refl _
end
end
section
open Sem (wp)
noncomputable def argsN (ev:Expr→Sem T1) (env:Env):List Expr→List (Bool×Sem T1)
 | []=>[]
 | e::rest=>match e with
  | .Starred x _=>(true,eval x env)::argsN ev env rest
  | e=>(false,ev e)::argsN ev env rest
noncomputable def qdJ (ev:Expr→Sem T1) (e:Expr) (env:Env):Sem Bool:=match e with
 | .Compare l ops rs pos=>match ops,rs with
  | [op],[r]=>(ev l >>= λa=>PySem.holding [a] (markedBehindIn op r (ev r)) >>= λb=>T8 pos >>= λ_=>operate [a,b] (uC op a b) >>= λc=>PySem.holding [c] (truthy c)) >>= orcB
  | ops,rs=>isTrue (.Compare l ops rs pos) env (eval (.Compare l ops rs pos) env) >>= orcB
 | .UnaryOp op x pos=>isTrue (.UnaryOp op x pos) env (eval (.UnaryOp op x pos) env) >>= orcB
 | .BoolOp op x pos=>isTrue (.BoolOp op x pos) env (eval (.BoolOp op x pos) env) >>= orcB
 | .IfExp a b c pos=>isTrue (.IfExp a b c pos) env (eval (.IfExp a b c pos) env) >>= orcB
 | e=>(ev e >>= λv=>T8 e.pos >>= λ_=>PySem.holding [v] (qcq v)) >>= orcB
noncomputable def evalN:Nat→Expr→Env→Sem T1
 | 0,e,env=>eval e env
 | n+1,e,env=>match e with
  | .Compare l ops rs pos=>match ops,rs with
   | [op],[r]=>evalN n l env >>= λa=>PySem.holding [a] (markedBehindIn op r (evalN n r env)) >>= λb=>T8 pos >>= λ_=>operate [a,b] (uC op a b)
   | ops,rs=>eval (.Compare l ops rs pos) env
  | .BoolOp op vs pos=>qii pos op (vs.map λv=>evalN n v env)
  | .IfExp test body orelse _=>qdJ (λe=>evalN n e env) test env >>= λb=>match b with
   | true=>evalN n body env
   | false=>evalN n orelse env
  | .BinOp l op r pos=>(evalN n l env >>= λa=>PySem.holding [a] (evalN n r env) >>= λb=>T8 pos >>= λ_=>operate [a,b] (qkh op a b)) >>= orcV
  | .UnaryOp op x pos=>evalN n x env >>= λv=>T8 pos >>= λ_=>PySem.holding [v] (unaryOp op v)
  | .Subscript value slice pos=>evalN n value env >>= λo=>PySem.holding [o] (evalN n slice env) >>= λi=>T8 pos >>= λ_=>getitemInPython o >>= λg=>subscripted slice g o i >>= λr=>letTemporaryGo value o r >>= λ_=>pure r
  | .List elts pos=>T8 pos >>= λ_=>spliced (backTo pos (argsN (λe=>evalN n e env) env elts)) >>= λl=>newList l
  | .Tuple elts _ pos=>T8 pos >>= λ_=>spliced (backTo pos (argsN (λe=>evalN n e env) env elts)) >>= λl=>newTuple l
  | .Call f args kws pos=>match f with
   | .Attribute o name apos=>qdh o name env (eval o env) >>= λov=>T8 apos.atName >>= λ_=>methodCall o name apos pos env ov (args.length+kws.length) (backTo pos (argsN (λe=>evalN n e env) env args)) (backToKw pos (keywordEach kws env))
   | .Name id ipos=>eval (.Name id ipos) env >>= λf=>callWith pos f [] (backTo pos (argsN (λe=>evalN n e env) env args)) (backToKw pos (keywordEach kws env))
   | f=>eval (.Call f args kws pos) env
  | .GeneratorExp elt gens scope pos=>qlh elt gens scope pos env
  | e=>eval e env
noncomputable def qlY (tst:Expr→Sem Bool) (op:BoolOp):List Expr→Sem Bool
 | []=>pure (op == .And)
 | x::rest=>tst x >>= λb=>match op,b with
  | .And,false=>pure false
  | .Or,true=>pure true
  | _,_=>qlY tst op rest
noncomputable def testN:Nat→Expr→Env→Sem Bool
 | 0,e,env=>isTrue e env (eval e env)
 | n+1,e,env=>match e with
  | .BoolOp op vs _=>qlY (λx=>testN n x env) op vs
  | .UnaryOp op x pos=>match op with
   | .Not=>testN n x env >>= λb=>pure !b
   | op=>isTrue (.UnaryOp op x pos) env (eval (.UnaryOp op x pos) env) >>= orcB
  | e=>qdJ (λe=>evalN n e env) e env
section
variable {prog:T6} {w:T3} {A:Around}
theorem qsv (test body orelse:Expr) (pos:Pos) (env:Env):eval (.IfExp test body orelse pos) env=(isTrue test env (eval test env) >>= λb=>if b=true then eval body env else eval orelse env):=(rfl)
theorem qq6 (l:Expr) (op:Operator) (r:Expr) (pos:Pos) (env:Env):eval (.BinOp l op r pos) env=(eval l env >>= λa=>PySem.holding [a] (eval r env) >>= λb=>T8 pos >>= λ_=>operate [a,b] (binaryOp op a b)):=(rfl)
theorem qsu (op:UnaryOp) (x:Expr) (pos:Pos) (env:Env):eval (.UnaryOp op x pos) env=(eval x env >>= λv=>T8 pos >>= λ_=>PySem.holding [v] (unaryOp op v)):=(rfl)
theorem qq4 (value slice:Expr) (pos:Pos) (env:Env):eval (.Subscript value slice pos) env=(eval value env >>= λo=>PySem.holding [o] (eval slice env) >>= λi=>T8 pos >>= λ_=>getitemInPython o >>= λg=>subscripted slice g o i >>= λr=>letTemporaryGo value o r >>= λ_=>pure r):=(rfl)
theorem qn1 (elts:List Expr) (pos:Pos) (env:Env):eval (.List elts pos) env=(T8 pos >>= λ_=>spliced (backTo pos (starEach elts env)) >>= λl=>newList l):=(rfl)
theorem qq3 (elts:List Expr) (k:Nat) (pos:Pos) (env:Env):eval (.Tuple elts k pos) env=(T8 pos >>= λ_=>spliced (backTo pos (starEach elts env)) >>= λl=>newTuple l):=(rfl)
theorem qpr (l:Expr) (op:CmpOp) (r:Expr) (pos:Pos) (env:Env) (z:Sem T1):isTrue (.Compare l [op] [r] pos) env z=(eval l env >>= λa=>PySem.holding [a] (markedBehindIn op r (eval r env)) >>= λb=>T8 pos >>= λ_=>operate [a,b] (compareOp op a b) >>= λc=>PySem.holding [c] (truthy c)):=(rfl)
theorem qpq (x:Expr) (pos:Pos) (env:Env) (z:Sem T1):isTrue (.UnaryOp .Not x pos) env z=(isTrue x env (eval x env) >>= λb=>pure !b):=(rfl)
theorem qmO (op:BoolOp) (vs:List Expr) (pos:Pos) (env:Env) (z:Sem T1):isTrue (.BoolOp op vs pos) env z=allTrue op vs env:=(rfl)
theorem vh {ev:Expr→Sem T1} {env:Env} (h:∀e,LeW prog w A (ev e) (eval e env)):∀l,AL prog w A (argsN ev env l) (starEach l env)
 | []=>trivial
 | e::rest=>by
  have z:=vh h rest
  cases e <;> first | exact ⟨rfl,h _,z⟩ | exact ⟨rfl,LeW.refl _,z⟩
theorem qkr {ev:Expr→Sem T1} {env:Env} (h:∀e,LeW prog w A (ev e) (eval e env)):∀l:List Expr,TL prog w A (l.map ev) (evalEach l env)
 | []=>trivial
 | e::rest=>⟨h e,qkr h rest⟩
theorem qgF {e:Expr} {env:Env} (h:isTrue e env (eval e env)=(eval e env >>= λv=>T8 e.pos >>= λ_=>PySem.holding [v] (truthy v))) {ev:Expr→Sem T1} (he:∀e,LeW prog w A (ev e) (eval e env)):LeW prog w A ((ev e >>= λv=>T8 e.pos >>= λ_=>PySem.holding [v] (qcq v)) >>= orcB) (isTrue e env (eval e env)):=by
 rw [h]
 exact LeW.orcB (LeW.bind (he _) λv=>LeW.bindR λ_=>LeW.holding qiw)
theorem qgs (hu:A.units<cLine) {ev:Expr→Sem T1} {env:Env} (h:∀e,LeW prog w A (ev e) (eval e env)) (e:Expr):LeW prog w A (qdJ ev e env) (isTrue e env (eval e env)):=by
 have o:∀e,LeW prog w A (isTrue e env (eval e env) >>= orcB) (isTrue e env (eval e env)):=λe=>LeW.orcB (LeW.refl _)
 cases e with
 | Compare l ops rs pos =>
  cases ops with
  | nil=>exact o _
  | cons op ops =>
   cases ops with
   | cons=>exact o _
   | nil =>
    cases rs with
    | nil=>exact o _
    | cons r rs =>
     cases rs with
     | cons=>exact o _
     | nil=>exact LeW.orcB (D5 (LeW.bind (h _) λa=>LeW.bind (LeW.holding (qc5 (h _))) λb=>LeW.bindR λ_=>LeW.bind (ui (qcj hu _ _ _)) λ_=>LeW.refl _) (qpr _ _ _ _ _ _).symm)
 | UnaryOp=>exact o _
 | BoolOp=>exact o _
 | IfExp=>exact o _
 | _=>exact qgF rfl h
theorem wo (hd:A.depth<U0) (hu:A.units<cLine):∀n e env,LeW prog w A (evalN n e env) (eval e env)
 | 0,_,_=>LeW.refl _
 | n+1,e,env=>by
  have ih:=wo hd hu n
  cases e with
  | Compare l ops rs pos =>
   cases ops with
   | nil=>exact LeW.refl _
   | cons op ops =>
    cases ops with
    | cons=>exact LeW.refl _
    | nil =>
     cases rs with
     | nil=>exact LeW.refl _
     | cons r rs =>
      cases rs with
      | cons=>exact LeW.refl _
      | nil=>exact D5 (LeW.bind (ih _ _) λa=>LeW.bind (LeW.holding (qc5 (ih _ _))) λb=>LeW.bindR λ_=>ui (qcj hu _ _ _)) (qh2 _ _ _ _ _).symm
  | BoolOp=>exact D5 (qfv (qkr (λe=>ih e env) _)) (qn3 _ _ _ _).symm
  | IfExp=>exact D5 (LeW.bind (qgs hu (λe=>ih e env) _) λb=>by cases b <;> exact ih _ _) (qsv _ _ _ _ _).symm
  | BinOp=>exact D5 (LeW.orcV (LeW.bind (ih _ _) λa=>LeW.bind (LeW.holding (ih _ _)) λb=>LeW.bindR λ_=>ui qlS)) (qq6 _ _ _ _ _).symm
  | UnaryOp=>exact D5 (LeW.bind (ih _ _) λa=>LeW.refl _) (qsu _ _ _ _).symm
  | Subscript=>exact D5 (LeW.bind (ih _ _) λa=>LeW.bind (LeW.holding (ih _ _)) λb=>LeW.refl _) (qq4 _ _ _ _).symm
  | List=>exact D5 (LeW.bindR λ_=>LeW.bind (jT (vS (vh (λe=>ih e env) _))) λ_=>LeW.refl _) (qn1 _ _ _).symm
  | Tuple=>exact D5 (LeW.bindR λ_=>LeW.bind (jT (vS (vh (λe=>ih e env) _))) λ_=>LeW.refl _) (qq3 _ _ _ _).symm
  | Call f =>
   cases f with
   | Attribute=>exact D5 (LeW.bind qkF λov=>LeW.bindR λ_=>qnk (vS (vh (λe=>ih e env) _))) (qn0 _ _ _ _ _ _ _).symm
   | Name=>exact D5 (LeW.bindR λf=>qf0 (vS (vh (λe=>ih e env) _))) (qn2 _ _ _ _ _ _).symm
   | _=>exact LeW.refl _
  | GeneratorExp=>exact qqV hd _ _ _ _ _
  | _=>exact LeW.refl _
theorem qkl {tst:Expr→Sem Bool} {op:BoolOp} {env:Env} (h:∀e,LeW prog w A (tst e) (isTrue e env (eval e env))):∀l:List Expr,LeW prog w A (qlY tst op l) (allTrue op l env)
 | []=>LeW.refl _
 | x::rest=>by
  refine LeW.bind (h x) λb => ?_
  have z:=qkl (op:=op) h rest
  cases op <;> cases b <;> first | exact LeW.refl _ | exact z
theorem qix (hd:A.depth<U0) (hu:A.units<cLine) {n:Nat} {e:Expr} {env:Env} (h:testN (n+1) e env=qdJ (λe=>evalN n e env) e env):LeW prog w A (testN (n+1) e env) (isTrue e env (eval e env)):=h▸qgs hu (λe=>wo hd hu n e env) e
theorem qaF (hd:A.depth<U0) (hu:A.units<cLine):∀n e env,LeW prog w A (testN n e env) (isTrue e env (eval e env))
 | 0,_,_=>LeW.refl _
 | n+1,e,env=>by
  have ih:=qaF hd hu n
  cases e with
  | BoolOp=>exact D5 (qkl (λe=>ih e env) _) (qmO _ _ _ _ _).symm
  | UnaryOp op =>
   cases op with
   | Not=>exact D5 (LeW.bind (ih _ _) λ_=>LeW.refl _) (qpq _ _ _ _).symm
   | _=>exact LeW.orcB (LeW.refl _)
  | _=>exact qix hd hu rfl
end
end
section
open Sem (wp)
noncomputable def uh:List String:=["enumerate","zip","dict_itemiterator","dict_reverseitemiterator","odict_iterator","itertools.zip_longest","itertools.pairwise"]
noncomputable def qhk (r a:Addr) (n:String) (vs:Array T1):Sem Unit:=match uh.contains n with
 | true=>match vs[0]? with
  | some v=>match v with
   | .int k t=>match t==0 with
    | true=>orcB (k==(a:Int)) >>= λb=>match b with
     | true=>rule "for.unpacks-the-owned-tuple" >>= λ_=>updateField r 0 .none
     | false=>pure ()
    | false=>pure ()
   | _=>pure ()
  | none=>pure ()
 | false=>pure ()
noncomputable def qhl (it v:T1):Sem Unit:=match it with
 | .ref r=>match v with
  | .ref a=>load r >>= λo=>match o.cls with
   | .type n=>match o.data with
    | .fields vs=>qhk r a n vs
    | _=>pure ()
   | _=>pure ()
  | _=>pure ()
 | _=>pure ()
noncomputable def qeB (target:Expr) (it v:T1):Sem Unit:=match target with
 | .Tuple _ _ _=>qhl it v
 | .List _ _=>qhl it v
 | _=>pure ()
section
variable {α β:Type} {prog:T6} {w:T3} {A:Around}
noncomputable def qnd (it v:T1):Sem Unit:=do
  let (.ref r, .ref a):=(it,v) | return
  let o ←load r
  match o.cls,o.data with
  | .type n, .fields vs =>
   if uh.contains n&&vs[0]? == some (rawInt a) then
    rule "for.unpacks-the-owned-tuple"
    updateField r 0 .none
  | _,_=>pure ()
theorem qkW {r a:Addr} {n:String} {vs:Array T1}:LeW prog w A (qhk r a n vs) (if (uh.contains n&&vs[0]? == some (rawInt a))=true then (rule "for.unpacks-the-owned-tuple" >>= λ_=>updateField r 0 .none) else pure ()):=by
 unfold qhk
 cases uh.contains n with
 | false=>exact LeW.refl _
 | true =>
  rw [Bool.true_and]
  cases vs[0]? with
  | none=>exact LeW.refl _
  | some v =>
   have no:some v≠some (rawInt a)→LeW prog w A (pure ()) (if (some v==some (rawInt a))=true then (rule "for.unpacks-the-owned-tuple" >>= λ_=>updateField r 0 .none) else pure ()):=λh=>D5 (LeW.refl _) (if_neg λe=>h (eq_of_beq e)).symm
   cases v with
   | int k t =>
    show LeW prog w A (match t==0 with | true=>_ | false=>pure ()) _
    cases ht:t==0 with
    | true =>
     obtain rfl:t=0:=eq_of_beq ht
     have e:(some (Value.int k 0)==some (rawInt a))=(k==(a:Int)):=by
      cases hk:(k==(a:Int)) with
      | true =>
       obtain rfl:k=a:=eq_of_beq hk
       exact beq_self_eq_true _
      | false=>exact beq_false_of_ne λh=>J1 (hk.symm.trans (beq_iff_eq.mpr (Value.int.inj (Option.some.inj h)).1))
     rw [e]
     exact D0 (D7 (LeW.refl _) (LeW.refl _))
    | false=>exact no λh=>J1 (ht.symm.trans (beq_iff_eq.mpr (Value.int.inj (Option.some.inj h)).2))
   | _=>exact no λh=>Value.noConfusion (Option.some.inj h)
theorem qeC {it v:T1}:LeW prog w A (qhl it v) (qnd it v):=by
 cases it with
 | ref r =>
  cases v with
  | ref a =>
   refine LeW.bindR (t:=load r) λo => ?_
   cases o.cls with
   | type n =>
    cases o.data with
    | fields vs=>exact qkW
    | _=>exact LeW.refl _
   | _=>exact LeW.refl _
  | _=>exact LeW.refl _
 | _=>exact LeW.refl _
theorem qeA {target:Expr} {it v:T1}:LeW prog w A (qeB target it v) (letOwnedTupleGo target it v):=by
 cases target with
 | Tuple=>exact D5 qeC rfl
 | List=>exact D5 qeC rfl
 | _=>exact LeW.refl _
end
end
section
open Sem (wp)
section
variable {α β:Type} {prog:T6} {w:T3} {A:Around} {c:Code}
theorem qil (f:T1→Sem α) {Q:α→T2→Prop} {E:T1→T2→Prop}:∀(t:Sem α) {s:T2},W prog w A c (t.tryCatch f) Q E s→W prog w A c t Q (λe s'=>W prog w A c (f e) Q E s') s:=by
 intro t
 induction t with
 | pure a=>exact λh=>h
 | raise e=>exact λh=>h
 | load a q k ih=>exact λ⟨o,ho,h⟩=>⟨o,ho,ih _ h⟩
 | update a q f k ih=>exact λ⟨ho,h⟩=>⟨ho,ih _ h⟩
 | loadIfAlive a k ih=>exact λ⟨o,ho,h⟩=>⟨o,ho,ih _ h⟩
 | call c' hd g l k ih=>exact λh=>⟨h.1,codeAny_mono h.2 λr s' h'=>ih _ h'⟩
 | handled own k ih=>exact λh=>⟨h.1,ih _ h.2⟩
 | genState g k ih=>exact λ⟨st,hg,h⟩=>⟨st,hg,ih _ h⟩
 | resume g r l k ih =>
  intro s h
  rcases h with ⟨c₀,er,hg,h⟩ | ⟨k₀,l₀,c₀,p₀,fs₀,cl,hg,h⟩
  ·exact .inl ⟨c₀,er,hg,SegX.mono h λ_ s' h'=>ih _ h'⟩
  ·exact .inr ⟨k₀,l₀,c₀,p₀,fs₀,cl,hg,SegX.mono h λ_ s' h'=>ih _ h'⟩
 | stack k ih=>exact λh p b=>ih _ (h p b)
 | unsupported=>exact λh=>h.elim
 | finish=>exact λh=>h.elim
 | register=>exact λh=>h.elim
 | choose=>exact λh=>h.elim
 | os=>exact λh=>h.elim
 | yield=>exact λh=>h.elim
 | fork=>exact λh=>h.elim
 | thread=>exact λh=>h.elim
 | await=>exact λh=>h.elim
 | rule tag k ih=>exact λh=>ih _ h
 | «at» p k ih=>exact λh=>ih _ h
 | point p k ih=>exact λh=>ih _ h
 | alloc p k ih=>exact λh=>ih _ h
 | fresh k ih=>exact λh=>ih _ h
 | ask k ih=>exact λh=>ih _ h
 | newGen p k ih=>exact λh=>ih _ h
theorem LeW.attempt {t t':Sem α} (h:LeW prog w A t' t):LeW prog w A t'.attempt t.attempt:=λA₀ c e Q E s x=>by
 have y:=qaB _ _ (qil _ _ x)
 have z:=h A₀ c e _ _ _ y
 intro Γ p hc hΓ
 rw [Sem.wp_attempt]
 exact z Γ p hc hΓ
theorem LeW.stack {k k':List (Code×Pos)→Sem α} (h:∀c p b,LeW prog w A (k' ((c,p)::b)) (k ((c,p)::b))):LeW prog w A (.stack k') (.stack k):=λA₀ c e Q E s x =>
 y_stack _ _ _ _ _ _ _ _ _ λp b _=>h c p b A₀ c e Q E s (x p b)
end
noncomputable def qcu (f:Addr) (hadNext:Bool) (acts:List (Code×Pos)):List T1:=match acts.find? λ(c,_)=>c.env?.bind (·.frame)==some f with
 | some (_,pos)=>if pos.line==0 then [] else [rawInt pos.line,rawInt pos.endLine,rawInt pos.col,rawInt pos.endCol]++EntryCells.cells f hadNext acts
 | none=>[]
theorem qnb (f:Addr) (b:Bool) (acts:List (Code×Pos)):IsPlace (qcu f b acts):=by
 obtain ⟨c9,h9,hc⟩:=EntryCells.cells_shape f b acts
 unfold qcu
 rw [hc]
 cases acts.find? λ(c,_)=>c.env?.bind (·.frame)==some f with
 | none=>exact .inl rfl
 | some x =>
  show IsPlace (if x.2.line==0 then [] else _)
  cases x.2.line==0
  ·exact .inr ⟨_,_,_,_,c9,b,h9,rfl⟩
  ·exact .inl rfl
noncomputable def entryO (head a:T1) (f:Addr) (pl:List T1):Obj:={cls := .type "traceback",dict:=none,data := .fields ([head,a, .none,rawInt f, .none]++(if pl.isEmpty then F2 6 .none else pl)).toArray}
noncomputable def qcJ (e' env:Env):Sem T1:=match e'.frame with
 | none=>T7 "frame"
 | some f'=>match env.frame with
  | none=>T7 "frame"
  | some f=>orcB (f'==f) >>= λb=>match b with
   | false=>T7 "frame"
   | true=>load f' >>= λo=>match (o.slots.getD 3 none).isSome with
    | false=>T7 "frame"
    | true=>pure (.ref f')
noncomputable def qcI (c:Code) (env:Env):Sem T1:=match c.isFrame with
 | false=>T7 "frame"
 | true=>match c.env? with
  | none=>T7 "frame"
  | some e'=>qcJ e' env
noncomputable def qff (env:Env):Sem T1 := .stack λst=>match st with
 | []=>T7 "frame"
 | x::_=>qcI x.1 env
noncomputable def uk (e:T1) (env:Env):Sem Unit:=match env.frame with
 | none=>T7 "frame:not-modelled"
 | some f=>field e 1 >>= λhead=>match head with
  | .ref h=>field (.ref h) 3 >>= λx=>orcB (x==rawInt f) >>= λb=>match b with
   | true=>pure ()
   | false=>setField (.ref h) 3 .none >>= λ_=>qff env >>= λa => .stack λst => .alloc (entryO (.ref h) a f (qcu f true st)) λb=>setField e 1 (.ref b)
  | _=>T7 "note"
noncomputable def qpp (body:Sem Flow) (h:ExceptHandler) (hs:List ExceptHandler) (orelse:Sem Flow) (env:Env):Sem Flow:=body.attempt >>= λr=>match r with
 | .ok f=>match f with
  | .next=>orelse
  | f=>pure f
 | .error e=>uk e env >>= λ_=>setFlight e none >>= λ_=>handleBy e env (h::hs)
section
variable {α β:Type} {prog:T6} {w:T3} {A:Around} {c:Code}
theorem D3 {b0:Bool} {g:Bool→Sem α} {t:Sem α} (h:LeW prog w A (g b0) t):LeW prog w A (Mine.orcB b0 >>= g) t:=by
 have z:=LeW.bind (prog:=prog) (w:=w) (A:=A) (qcv (b:=b0)) (f':=g) (f:=λb=>if b=b0 then t else g b) (λb=>by
  by_cases e:b=b0
  ·subst e
   simpa using h
  ·simp only [e,if_false]
   exact LeW.refl _)
 exact D5 z (by show (if b0=b0 then t else g b0)=t;rw [if_pos rfl])
theorem qhV (env:Env):frameOf env = .stack λst=>frameObject ((envsOf st).dropWhile (·.frame != env.frame)) >>= λo=>match o with
 | some f=>pure f
 | none=>T7 "internal:frame-not-on-the-stack":=rfl
theorem qhU {env:Env}:LeW prog w A (qff env) (frameOf env):=by
 rw [qhV]
 refine LeW.stack λc p b => ?_
 show LeW prog w A (qcI c env) _
 unfold qcI
 cases hf:c.isFrame with
 | false=>exact B7
 | true =>
  cases he:c.env? with
  | none=>exact B7
  | some e' =>
   show LeW prog w A (qcJ e' env) _
   unfold qcJ
   cases hf':e'.frame with
   | none=>exact B7
   | some f' =>
    cases hef:env.frame with
    | none=>exact B7
    | some f =>
     refine D3 ?_
     cases hb:f'==f with
     | false=>exact B7
     | true =>
      obtain rfl:f'=f:=eq_of_beq hb
      have e2:(envsOf ((c,p)::b)).dropWhile (·.frame != some f')=e'::envsOf b:=by
       rw [envsOf_cons,show c.envs=[e'] by unfold Code.envs;rw [hf,he];rfl]
       show S7 _ (e'::envsOf b)=_
       rw [List.dropWhile_cons,hf',bne_self_eq_false]
       rfl
      rw [e2]
      unfold frameObject
      simp only [readyFrames,hf',bind_assoc]
      refine LeW.bindR λo => ?_
      cases (o.slots.getD 3 none).isSome with
      | false=>exact B7
      | true=>exact LeW.refl _
theorem qnf {e:T1} {env:Env}:LeW prog w A (uk e env) (noteFrame e env):=by
 unfold uk noteFrame
 cases env.frame with
 | none=>exact B7
 | some f =>
  refine LeW.bindR λhead => ?_
  cases head with
  | ref h =>
   refine LeW.bindR (t:=field (.ref h) 3) λx=>D3 ?_
   cases x==rawInt f with
   | true=>exact LeW.refl _
   | false =>
    refine LeW.bindR λ_=>LeW.bind qhU λa => ?_
    show LeW prog w A _ (.stack λst=>(match st.find? λ(c,_)=>c.env?.bind (·.frame)==some f with
      | some (_,pos)=>pure (if pos.line==0 then [] else [rawInt pos.line,rawInt pos.endLine,rawInt pos.col,rawInt pos.endCol]++EntryCells.cells f true st)
      | none=>pure []) >>= λpl=>EntryCells.newEntry (.ref h) a .none (rawInt f) .none pl >>= λb=>setField e 1 b)
    refine LeW.stack λc p b => ?_
    have epl:(match List.find? (λ(c,_)=>c.env?.bind (·.frame)==some f) ((c,p)::b) with
      | some (_,pos)=>(pure (if pos.line==0 then [] else [rawInt pos.line,rawInt pos.endLine,rawInt pos.col,rawInt pos.endCol]++EntryCells.cells f true ((c,p)::b)):Sem (List T1))
      | none=>pure [])=pure (qcu f true ((c,p)::b)):=by
     unfold qcu
     cases List.find? (λ(c,_)=>c.env?.bind (·.frame)==some f) ((c,p)::b) <;> rfl
    rw [epl]
    have hpl:=qnb f true ((c,p)::b)
    generalize qcu f true ((c,p)::b)=pl at hpl
    show LeW prog w A _ (EntryCells.newEntry (.ref h) a .none (rawInt f) .none pl >>= λb=>setField e 1 b)
    intro A₀ c' ec Q E s x
    refine wpOwn_bind ?_
    unfold EntryCells.newEntry newFields
    refine wpOwn_of_wpAny (wpAny_newObj_type ?_ (hpl.sizeOk5 _ _ _ _ _))
    exact qdT _ x
  | _=>exact B7
theorem qpo (body:Sem Flow) (h:ExceptHandler) (hs:List ExceptHandler) (orelse:Sem Flow) (env:Env):tryStmt false body (h::hs) orelse [] env=(body.attempt >>= λr=>match r with
 | .ok f=>match f with
  | .next=>orelse
  | f=>pure f
 | .error e=>noteFrame e env >>= λ_=>setFlight e none >>= λ_=>handleBy e env (h::hs)):=by
 show (body.attempt >>= _)=(body.attempt >>= _)
 refine bind_congr λr => ?_
 cases r with
 | error e=>rfl
 | ok f=>cases f <;> rfl
theorem qpn {body body':Sem Flow} (hb:LeW prog w A body' body) {h:ExceptHandler} {hs:List ExceptHandler} {orelse:Sem Flow} {env:Env}:LeW prog w A (qpp body' h hs orelse env) (tryStmt false body (h::hs) orelse [] env):=by
 rw [qpo]
 refine LeW.bind hb.attempt λr => ?_
 cases r with
 | ok f=>exact LeW.refl _
 | error e=>exact LeW.bind qnf λ_=>LeW.refl _
end
end
section
open Sem (wp)
noncomputable def listN (ex:Stmt→Sem Flow):List Stmt→Sem Flow
 | []=>pure .next
 | s::rest=>ex s >>= λf=>match f with
  | .next=>listN ex rest
  | f=>pure f
noncomputable def execN:Nat→Stmt→Env→Sem Flow
 | 0,s,env=>exec s env
 | n+1,s,env=>match s with
  | .If test body orelse pos=>T8 pos >>= λ_=>testN n test env >>= λb=>match b with
   | true=>listN (λs=>execN n s env) body
   | false=>listN (λs=>execN n s env) orelse
  | .Return v pos=>match v with
   | some e=>T8 pos >>= λ_=>evalN n e env >>= λv=>pure (.ret v)
   | none=>exec (.Return none pos) env
  | .Assign targets value pos=>T8 pos >>= λ_=>swapsWithSole targets value pos.line env >>= λb=>match b with
   | true=>evalThenUse value env (λv=>assignAll v ((assignEach targets env).map (·.2))) >>= λ_=>pure .next
   | false=>evalN n value env >>= λv=>swappedStores targets value env >>= λsw=>assignStores env v sw ((assignEach targets env).map (·.2))
  | .Expr value pos=>match interactive env with
   | true=>exec (.Expr value pos) env
   | false=>T8 pos >>= λ_=>swapsWith value none pos.line env >>= λb=>match b with
    | true=>evalThenUse value env (λ_=>point) >>= λ_=>pure .next
    | false=>evalN n value env >>= λv=>dropValue value pos v
  | .Try body hs orelse final pos=>match final with
   | []=>match hs with
    | h::hs=>T8 pos >>= λ_=>qpp (listN (λs=>execN n s env) body) h hs (execs orelse env) env
    | []=>exec (.Try body [] orelse [] pos) env
   | final=>exec (.Try body hs orelse final pos) env
  | s=>exec s env
noncomputable def vP (n:Nat) (l:List Stmt) (env:Env):Sem Flow:=listN (λs=>execN n s env) l
noncomputable def qio (test:Expr) (body orelse:List Stmt) (env:Env):Sem PySem.Fin:=testN 8 test env >>= λb=>match b with
 | true=>vP 8 body env >>= λf=>match f with
  | .next=>again (.whileLoop test body orelse env)
  | .cont=>again (.whileLoop test body orelse env)
  | .brk=>pure (.done .next)
  | .ret v=>pure (.done (.ret v))
 | false=>execs orelse env >>= λf=>pure (.done f)
noncomputable def qlA (target:Expr) (it:T1) (body orelse:List Stmt) (env:Env):Sem PySem.Fin:=T8 target.pos >>= λ_=>(pyNext it).onRaise (λ_=>T8 {target.pos with line:=0}) >>= λo=>match o with
 | none=>again (.block orelse env)
 | some v=>qeB target it v >>= λ_=>assign target env v >>= λ_=>vP 8 body env >>= λf=>match f with
  | .next=>again (.forLoop target it body orelse env)
  | .cont=>again (.forLoop target it body orelse env)
  | .brk=>pure (.done .next)
  | .ret v=>pure (.done (.ret v))
noncomputable def qie (elt:Expr) (g:Comprehension) (sc:Scope) (p:Pos) (it acc:T1) (env:Env):Sem PySem.Fin:=match g.is_async != 0 with
 | true=>T7 "comp"
 | false=>T8 g.iter.pos >>= λ_=>pyNext it >>= λo=>match o with
  | none=>pure (.done .next)
  | some v=>qeB g.target it v >>= λ_=>assign g.target env v >>= λ_=>match g.ifs with
   | []=>evalN 8 elt env >>= λx=>call (.builtin "list.append") [acc,x] >>= λ_=>again (.compLoop (.ListComp elt [g] sc p) 0 it acc env)
   | [t]=>testN 8 t env >>= λb=>match b with
    | true=>evalN 8 elt env >>= λx=>call (.builtin "list.append") [acc,x] >>= λ_=>again (.compLoop (.ListComp elt [g] sc p) 0 it acc env)
    | false=>again (.compLoop (.ListComp elt [g] sc p) 0 it acc env)
   | _=>T7 "comp"
noncomputable def qid (elt:Expr) (gens:List Comprehension) (sc:Scope) (p:Pos) (depth:Nat) (it acc:T1) (env:Env):Sem PySem.Fin:=match gens,depth with
 | [g],0=>qie elt g sc p it acc env
 | _,_=>compTurn (.ListComp elt gens sc p) depth it acc env
noncomputable def rawN (body:List Stmt) (env:Env):Sem PySem.Fin:=point >>= λ_=>vP 8 body env >>= λf=>match f with
 | .ret v=>ret v
 | _=>ret .none
noncomputable def qmx (body:List Stmt) (env:Env):Sem PySem.Fin:=point >>= λ_=>(vP 8 body env).onRaise (leaving env) >>= λf=>match f with
 | .ret v=>ret v
 | _=>ret .none
section
variable {prog:T6} {w:T3} {A:Around} {body:List Stmt} {env:Env}
theorem vN {ex:Stmt→Sem Flow} {env:Env} (h:∀s,LeW prog w A (ex s) (exec s env)):∀l,LeW prog w A (listN ex l) (execs l env)
 | []=>LeW.refl _
 | s::rest=>by
  refine LeW.bind (h s) λf => ?_
  have z:=vN h rest
  cases f <;> first | exact z | exact LeW.refl _
theorem qst (test:Expr) (body orelse:List Stmt) (pos:Pos) (env:Env):exec (.If test body orelse pos) env=(T8 pos >>= λ_=>isTrue test env (eval test env) >>= λb=>if b=true then execs body env else execs orelse env):=(rfl)
theorem qq2 (e:Expr) (pos:Pos) (env:Env):exec (.Return (some e) pos) env=(T8 pos >>= λ_=>eval e env >>= λv=>pure (.ret v)):=(rfl)
theorem qjY (targets:List Expr) (value:Expr) (pos:Pos) (env:Env):exec (.Assign targets value pos) env=(T8 pos >>= λ_=>swapsWithSole targets value pos.line env >>= λb=>if b=true then (evalThenUse value env (λv=>assignAll v ((assignEach targets env).map (·.2))) >>= λ_=>pure .next) else (eval value env >>= λv=>swappedStores targets value env >>= λsw=>assignStores env v sw ((assignEach targets env).map (·.2)))):=(rfl)
theorem qnZ (value:Expr) (pos:Pos) (env:Env):exec (.Expr value pos) env=(T8 pos >>= λ_=>if interactive env=true then printExpr (eval value env) else (swapsWith value none pos.line env >>= λb=>if b=true then (evalThenUse value env (λ_=>point) >>= λ_=>pure .next) else (eval value env >>= λv=>dropValue value pos v))):=(rfl)
theorem qq1 (body:List Stmt) (hs:List ExceptHandler) (orelse final:List Stmt) (pos:Pos) (env:Env):exec (.Try body hs orelse final pos) env=(T8 pos >>= λ_=>tryStmt false (execs body env) hs (execs orelse env) final env):=(rfl)
theorem qgz (hd:A.depth<U0) (hu:A.units<cLine):∀n s env,LeW prog w A (execN n s env) (exec s env)
 | 0,_,_=>LeW.refl _
 | n+1,s,env=>by
  have ih:=qgz hd hu n
  cases s with
  | If=>exact D5 (LeW.bindR λ_=>LeW.bind (qaF hd hu n _ _) λb=>D7 (vN (λs=>ih s env) _) (vN (λs=>ih s env) _)) (qst _ _ _ _ _).symm
  | Return v =>
   cases v with
   | none=>exact LeW.refl _
   | some=>exact D5 (LeW.bindR λ_=>LeW.bind (wo hd hu n _ _) λ_=>LeW.refl _) (qq2 _ _ _).symm
  | Assign=>exact D5 (LeW.bindR λ_=>LeW.bindR λb=>D7 (LeW.refl _) (LeW.bind (wo hd hu n _ _) λ_=>LeW.refl _)) (qjY _ _ _ _).symm
  | Expr value pos =>
   show LeW prog w A (match interactive env with
    | true=>exec (.Expr value pos) env
    | false=>T8 pos >>= λ_=>swapsWith value none pos.line env >>= λb=>match b with
     | true=>evalThenUse value env (λ_=>point) >>= λ_=>pure .next
     | false=>evalN n value env >>= λv=>dropValue value pos v) (exec (.Expr value pos) env)
   cases hi:interactive env with
   | true=>exact LeW.refl _
   | false =>
    rw [qnZ,hi]
    exact LeW.bindR λ_=>LeW.bindR λb=>D7 (LeW.refl _) (LeW.bind (wo hd hu n _ _) λ_=>LeW.refl _)
  | Try body hs orelse final pos =>
   cases final with
   | cons=>exact LeW.refl _
   | nil =>
    cases hs with
    | nil=>exact LeW.refl _
    | cons=>exact D5 (LeW.bindR λ_=>qpn (vN (λs=>ih s env) _)) (qq1 _ _ _ _ _ _).symm
  | _=>exact LeW.refl _
theorem uy (hd:A.depth<U0) (hu:A.units<cLine) (n:Nat) (l:List Stmt) (env:Env):LeW prog w A (vP n l env) (execs l env):=vN (λs=>qgz hd hu n s env) l
theorem qkt (hd:A.depth<U0) (hu:A.units<cLine) (test:Expr) (body orelse:List Stmt) (env:Env):LeW prog w A (qio test body orelse env) (whileTurn test body orelse env):=by
 refine LeW.bind (qaF hd hu 8 _ _) λb => ?_
 cases b
 ·exact LeW.refl _
 ·refine LeW.bind (uy hd hu 8 _ _) λf => ?_
  cases f <;> exact LeW.refl _
theorem qqW (hd:A.depth<U0) (hu:A.units<cLine) (target:Expr) (it:T1) (body orelse:List Stmt) (env:Env):LeW prog w A (qlA target it body orelse env) (forTurn target it body orelse env):=by
 unfold qlA forTurn
 refine LeW.bindR λ_=>LeW.bindR λo => ?_
 cases o
 ·exact LeW.refl _
 ·refine LeW.bind qeA λ_=>LeW.bindR λ_=>LeW.bind (uy hd hu 8 _ _) λf => ?_
  cases f <;> exact LeW.refl _
theorem qoR (hd:A.depth<U0) (hu:A.units<cLine) (elt:Expr) (gens:List Comprehension) (sc:Scope) (p:Pos) (depth:Nat) (it acc:T1) (env:Env):LeW prog w A (qid elt gens sc p depth it acc env) (compTurn (.ListComp elt gens sc p) depth it acc env):=by
 cases gens with
 | nil=>exact LeW.refl _
 | cons g gs =>
  cases gs with
  | cons=>exact LeW.refl _
  | nil =>
   cases depth with
   | succ=>exact LeW.refl _
   | zero =>
    show LeW prog w A (qie elt g sc p it acc env) _
    unfold qie
    cases ha:g.is_async != 0 with
    | true=>exact B7
    | false =>
     unfold compTurn
     simp only [List.getElem?_cons_zero,ha,List.getElem?_cons_succ,O4]
     refine LeW.bindR λ_=>LeW.bindR λo => ?_
     cases o
     ·exact LeW.refl _
     ·refine LeW.bind qeA λ_=>LeW.bindR λ_ => ?_
      cases g.ifs with
      | nil =>
       simp only [M7,pure_bind,bind_assoc]
       rw [if_pos trivial]
       exact LeW.bind (wo hd hu 8 _ _) λ_=>LeW.refl _
      | cons t l =>
       cases l with
       | cons=>exact B7
       | nil =>
        simp only [L0,M7,bind_assoc]
        rw [if_pos trivial]
        simp only [pure_bind,bind_assoc]
        refine LeW.bind (qaF hd hu 8 _ _) λb => ?_
        cases b
        ·exact LeW.refl _
        ·exact LeW.bind (wo hd hu 8 _ _) λ_=>LeW.refl _
theorem qnW (hd:A.depth<U0) (hu:A.units<cLine) (body:List Stmt) (env:Env):LeW prog w A (qmx body env) (denote table (.func body env)):=by
 refine D5 (LeW.bindR λ_=>LeW.bind (LeW.onRaise (uy hd hu 8 body env)) λf=>LeW.refl _) (show (point >>= λ_=>(execs body env).onRaise (leaving env) >>= λf=>match f with | .ret v=>ret v | _=>ret .none)=denote table (.func body env) from rfl)
end
end
section
open Sem (wp)
noncomputable def qjQ (n:String):Bool:=match decide (n="list_iterator") with
 | true=>true
 | false=>match decide (n="zip") with
  | true=>true
  | false=>match decide (n="range_iterator") with
   | true=>true
   | false=>match decide (n="tuple_iterator") with
    | true=>true
    | false=>decide (n="bytes_iterator")
noncomputable def y4 (o:Obj):Bool:=match o.cls with
 | .type n=>qjQ n
 | _=>false
noncomputable def wD (e:Expr) (depth:Nat) (it acc:T1) (env:Env):Sem PySem.Fin:=match it with
 | .ref a=>match ((clausesOf e)[depth]?).elim false (·.is_async != 0) with
  | true => .unsupported "start"
  | false => .load a none λo=>match y4 o with
   | true => .pure (.again (.compLoop e depth (.ref a) acc env))
   | false => .unsupported "start"
 | _ => .unsupported "start"
section
variable {prog:T6} {w:T3} {A:Around}
theorem uR {it:Addr} {s:T2} {o:Obj} {Q:T1→T2→Prop} {E:T1→T2→Prop} (ho:s.heap.get? it=some o) (hi:y4 o=true) (h:Q (.ref it) s):wpAny (model prog w) A (pyIter (.ref it)) Q E s:=by
 unfold y4 at hi
 split at hi
 ·rename_i n hc
  have hT:s.TypeIs (.ref it) n:=⟨o,ho,hc⟩
  unfold qjQ at hi
  split at hi
  ·rename_i e
   rw [of_decide_eq_true e] at hT
   refine wpAny_pyIter_slot hT slot_listiter_iter (wpAny_call_entry slot_listiter_iter hT entry_listiter_iter ?_ (args_listiter_iter _))
   show wpAny _ _ (ret (.ref it)) _ _ s
   exact wpAny_pure ⟨_,rfl,"list_iterator",_,hT,slot_listiter_next.lookup,h⟩
  split at hi
  ·rename_i e
   rw [of_decide_eq_true e] at hT
   refine wpAny_pyIter_slot hT F.slot_zip_iter (wpAny_call_entry F.slot_zip_iter hT F.entry_zip_iter ?_ (F.args_zip_iter_1 _))
   show wpAny _ _ (ret (.ref it)) _ _ s
   exact wpAny_pure ⟨_,rfl,"zip",_,hT,F.slot_zip_next.lookup,h⟩
  split at hi
  ·rename_i e
   rw [of_decide_eq_true e] at hT
   refine wpAny_pyIter_slot hT F.slot_range_iterator_iter (wpAny_call_entry F.slot_range_iterator_iter hT F.entry_range_iterator_iter ?_ (F.args_range_iterator_iter_1 _))
   show wpAny _ _ (ret (.ref it)) _ _ s
   exact wpAny_pure ⟨_,rfl,"range_iterator",_,hT,F.slot_range_iterator_next.lookup,h⟩
  split at hi
  ·rename_i e
   rw [of_decide_eq_true e] at hT
   refine wpAny_pyIter_slot hT F.slot_tuple_iterator_iter (wpAny_call_entry F.slot_tuple_iterator_iter hT F.entry_tuple_iterator_iter ?_ (F.args_tuple_iterator_iter_1 _))
   show wpAny _ _ (ret (.ref it)) _ _ s
   exact wpAny_pure ⟨_,rfl,"tuple_iterator",_,hT,F.slot_tuple_iterator_next.lookup,h⟩
  ·rw [of_decide_eq_true hi] at hT
   refine wpAny_pyIter_slot hT KBw.slot_self (wpAny_call_entry KBw.slot_self hT KBw.entry_self ?_ (KBw.args_self _))
   show wpAny _ _ (ret (.ref it)) _ _ s
   exact wpAny_pure ⟨_,rfl,"bytes_iterator",_,hT,KBw.slot_next.lookup,h⟩
 ·cases hi
theorem qkJ {e:Expr} {depth:Nat} {it acc:T1} {env:Env}:LeW prog w A (wD e depth it acc env) (compStart e depth it acc env):=by
 unfold wD
 split
 ·rename_i a
  split
  ·exact λ_ _ _ _ _ _ h=>h.elim
  ·rename_i ha
   refine C6 λA₀ c Q E s _ h => ?_
   obtain ⟨o,ho,h⟩:=h
   have h:W prog w A₀ c (match y4 o with
    | true=>Sem.pure (Fin.again (Code.compLoop e depth (Value.ref a) acc env))
    | false=>Sem.unsupported "start") Q E s:=h
   cases hi:y4 o with
   | false=>rw [hi] at h;exact h.elim
   | true =>
    rw [hi] at h
    have h:Q (.again (.compLoop e depth (.ref a) acc env)) s:=h
    unfold compStart
    rw [ha]
    show wpAny _ _ (ask >>= _) _ _ s
    refine T9 (wpAny_askSetting (wpAny_ite ?_))
    split
    ·exact wpAny_pure h
    ·refine T9 (wpAny_rule ?_)
     split
     ·exact T9 (wpAny_standAt (T9 (uR ho hi (wpAny_pure h))))
     ·exact T9 (uR ho hi (wpAny_pure h))
 ·exact λ_ _ _ _ _ _ h=>h.elim
noncomputable def denSF (c:Code):Sem PySem.Fin:=match c with
 | .compStart e depth it acc env=>match (Code.compStart e depth it acc env).isFrame with
  | true=>wD e depth it acc env
  | false=>denote treeTable (.compStart e depth it acc env)
 | c=>denote treeTable c
theorem qdd (e:Expr) (depth:Nat) (it acc:T1) (env:Env):denote table (.compStart e depth it acc env)=if (Code.compStart e depth it acc env).isFrame=true then (compStart e depth it acc env).onRaise (leaving env) else (compStart e depth it acc env).onRaise λx=>noteFrame x env >>= λ_=>T8 theWindowsPlace:=(rfl)
theorem qoS {e:Expr} {depth:Nat} {it acc:T1} {env:Env} (ha:((clausesOf e)[depth]?).elim false (·.is_async != 0)=false):compStart e depth it acc env=(ask >>= λst=>if st.params.followText "comprehension-iter-twice"=true then again (.compLoop e depth it acc env) else rule "comprehension.iter-twice" >>= λ_=>match (clausesOf e)[depth]? with
  | some g=>T8 g.iter.pos >>= λ_=>pyIter it >>= λit=>again (.compLoop e depth it acc env)
  | none=>pyIter it >>= λit=>again (.compLoop e depth it acc env)):=by
 unfold compStart
 rw [ha,if_neg F7]
 refine bind_congr λst => ?_
 split
 ·rfl
 ·refine bind_congr λ_ => ?_
  cases (clausesOf e)[depth]? <;> rfl
noncomputable def qgD (M:Model) (Γ:Ctx) (p:Pos) (t:Sem PySem.Fin) (fs:List Frame) (s:T2) (e:End) (s':T2):Prop:=match fs with
 | []=>match t with
  | .load a _ k=>∃o,s.heap.get? a=some o∧Runs M Γ p (k o) [] s e s'
  | .unsupported _=>False
  | _=>True
 | _=>True
theorem w7 {M:Model} {Γ:Ctx} {p:Pos} {t:Sem PySem.Fin} {fs:List Frame} {s:T2} {e:End} {s':T2} (h:Runs M Γ p t fs s e s'):qgD M Γ p t fs s e s':=by
 apply Runs.casesOn (motive:=λΓ p t fs s e s' _=>qgD M Γ p t fs s e s') h
 case load=>exact λho hr=>⟨_,ho,hr⟩
 all_goals (intros;exact True.intro)
theorem qiH {A:Around} {c:Code} {e:Expr} {depth:Nat} {it acc:T1} {env:Env} {f:T1→Sem Unit} {s:T2} {P:End→T2→Prop} (h:SegX (model prog w) A c (wD e depth it acc env) [] s P):SegX (model prog w) A c ((compStart e depth it acc env).onRaise f) [] s P:=by
 unfold wD at h
 split at h
 ·rename_i a
  split at h
  ·intro Γ p hc hΓ
   obtain ⟨e,s',hr,_⟩:=h Γ p hc hΓ
   exact (w7 hr).elim
  ·rename_i ha
   by_cases hx:∃o,s.heap.get? a=some o∧y4 o=true
   ·obtain ⟨o,ho,hi⟩:=hx
    have hk:SegX (model prog w) A c (.pure (.again (.compLoop e depth (.ref a) acc env))) [] s P:=by
     intro Γ p hc hΓ
     obtain ⟨e,s',hr,hq⟩:=h Γ p hc hΓ
     obtain ⟨o',ho',hr⟩:=w7 hr
     rw [ho] at ho'
     cases ho'
     have hr:Runs (model prog w) Γ p (match y4 o with
      | true=>Sem.pure (Fin.again (Code.compLoop _ depth (Value.ref a) acc env))
      | false=>Sem.unsupported "start") [] s e s':=hr
     rw [hi] at hr
     exact ⟨e,s',hr,hq⟩
    rw [qoS ha]
    refine s_cmd _ _ _ _ _ _ (m:=ask) (k:=λst=>(if st.params.followText "comprehension-iter-twice"=true then again (.compLoop e depth (.ref a) acc env) else rule "comprehension.iter-twice" >>= λ_=>match (clausesOf e)[depth]? with
     | some g=>T8 g.iter.pos >>= λ_=>pyIter (.ref a) >>= λit=>again (.compLoop e depth it acc env)
     | none=>pyIter (.ref a) >>= λit=>again (.compLoop e depth it acc env):Sem PySem.Fin).onRaise f) (wpAny_askSetting ?_)
    show SegX (model prog w) A c ((if w.params.followText "comprehension-iter-twice"=true then _ else _:Sem PySem.Fin).onRaise f) [] s P
    cases hf:w.params.followText "comprehension-iter-twice" with
    | true=>exact hk
    | false =>
     have key:SegX (model prog w) A c ((pyIter (.ref a) >>= λit=>again (.compLoop e depth it acc env)).onRaise f) [] s P:=by
      rw [Sem.bind_eq_wrap',Sem.onRaise_eq_wrap,Sem.wrap_wrap]
      rintro Γ p rfl hΓ
      refine runs_wrap_of_wp (Φ:=λe s'=>e.quiet=true∧P e s') _ _ _ _ (pyIter (.ref a)) ((uR (E:=λ_ _=>False) ho hi (Q:=λv s'=>v = .ref a∧s'=s) ⟨rfl,rfl⟩) (Γ.over []) p (hΓ.over [])) ?_ (λx p' s' h'=>h'.elim)
      intro v p' s' h'
      obtain ⟨rfl,rfl⟩:=h'
      exact hk Γ p' rfl hΓ
     refine s_cmd _ _ _ _ _ _ (m:=rule "comprehension.iter-twice") (k:=λ_=>((match (clausesOf e)[depth]? with
      | some g=>T8 g.iter.pos >>= λ_=>pyIter (.ref a) >>= λit=>again (.compLoop e depth it acc env)
      | none=>pyIter (.ref a) >>= λit=>again (.compLoop e depth it acc env)):Sem PySem.Fin).onRaise f) (wpAny_rule ?_)
     cases hg:(clausesOf e)[depth]? with
     | none=>exact key
     | some g=>exact s_cmd _ _ _ _ _ _ (m:=T8 g.iter.pos) (k:=λ_=>(pyIter (.ref a) >>= λit=>again (.compLoop e depth it acc env)).onRaise f) (wpAny_standAt key)
   ·intro Γ p hc hΓ
    obtain ⟨e,s',hr,_⟩:=h Γ p hc hΓ
    obtain ⟨o,ho,hr⟩:=w7 hr
    cases hi:y4 o with
    | true=>exact (hx ⟨o,ho,hi⟩).elim
    | false =>
     have hr:Runs (model prog w) Γ p (match y4 o with
      | true=>Sem.pure (Fin.again (Code.compLoop _ depth (Value.ref a) acc env))
      | false=>Sem.unsupported "start") [] s e s':=hr
     rw [hi] at hr
     exact (w7 hr).elim
 ·intro Γ p hc hΓ
  obtain ⟨e,s',hr,_⟩:=h Γ p hc hΓ
  exact (w7 hr).elim
end
end
section
open Sem (wp)
noncomputable def qb8:Data→Bool
 | .seq _ _=>true
 | _=>false
noncomputable def qca:Data→Bool
 | .cls _=>true
 | _=>false
theorem qkY (d:Data):(qb8 d&&qca d)=false:=by cases d <;> rfl
noncomputable def qpk (x c:T1):Sem Unit:=match x with
 | .ref x=>match c with
  | .ref c => .load x none λo => .load c none λo2=>match qb8 o.data&&qca o2.data with
   | true => .pure ()
   | false => .unsupported "two"
  | _ => .unsupported "two"
 | _ => .unsupported "two"
noncomputable def qdZ (self:T1) (name:U2):Sem PySem.Fin:=field self 0 >>= λcls=>field self 1 >>= λobj=>field self 2 >>= λstart=>match (start == .none||name=="__class__") with
 | true=>T7 "super"
 | false=>notOfAnOpaqueClass name.toString "" start >>= λ_=>match start == .type "module" with
  | true=>T7 "super"
  | false=>mroOf start >>= λmro=>match (mro.dropWhile (· != cls)).drop 1 with
   | []=>T7 "super"
   | c::_=>classOwn c name >>= λa=>match a with
    | none=>T7 "super"
    | some a=>typeOf a >>= λt=>typeLookup t "__get__" >>= λg=>match g with
     | none=>T7 "super"
     | some g=>qpk obj start >>= λ_=>PySem.holding [a] (call g [a,obj,start]) >>= λr=>ret r
noncomputable def qc1 (args:Args):Sem PySem.Fin:=match args.pos with
 | [self,nameV]=>match nameV with
  | .str name t=>qdZ self name
  | _=>T7 "super"
 | _=>T7 "super"
section
variable {α β:Type} {prog:T6} {w:T3} {A:Around}
theorem qpj {x c:T1} {f':Unit→Sem α} {t:Sem α} (h:(x==c)=false→LeW prog w A (f' ()) t):LeW prog w A (qpk x c >>= f') t:=by
 cases x with
 | ref a =>
  cases c with
  | ref b =>
   intro A₀ k e Q E s q
   obtain ⟨o,ho,o2,ho2,q⟩:=q
   have q:=qaB f' (match qb8 o.data&&qca o2.data with
    | true=>(.pure ():Sem Unit)
    | false => .unsupported "two") q
   cases hb:qb8 o.data&&qca o2.data with
   | false =>
    rw [hb] at q
    exact q.elim
   | true =>
    rw [hb] at q
    refine h (beq_false_of_ne λr => ?_) A₀ k e Q E s q
    rw [Value.ref.inj r,ho2] at ho
    rw [Option.some.inj ho,qkY] at hb
    exact J1 hb
  | _=>exact λ_ _ _ _ _ _ h=>h.elim
 | _=>exact λ_ _ _ _ _ _ h=>h.elim
theorem qfH {args:Args}:LeW prog w A (qc1 args) (Builtin.«super.__getattribute__» args):=by
 refine C7 λself nameV hp=>D4 λname t e => ?_
 obtain ⟨ps,kw⟩:=args
 cases hp
 rw [e]
 unfold qdZ
 refine LeW.bindR λcls=>LeW.bindR λobj=>LeW.bindR λstart=>C9 λh1 => ?_
 rw [h1,if_neg F7]
 refine LeW.bindR λ_=>C9 λh2 => ?_
 rw [h2,if_neg F7]
 refine LeW.bindR λmro => ?_
 cases (mro.dropWhile (· != cls)).drop 1 with
 | nil=>exact B7
 | cons c rest =>
  simp only [L0,bind_assoc]
  refine LeW.bindR λa => ?_
  cases a with
  | none=>exact B7
  | some a =>
   simp only [bind_assoc]
   refine LeW.bindR λt=>LeW.bindR λg => ?_
   cases g with
   | none=>exact B7
   | some g =>
    simp only [bind_assoc,pure_bind]
    refine qpj λh => ?_
    rw [h,if_neg F7]
    exact LeW.bindR λr=>D5 (LeW.refl _) rfl
end
end
section
open Sem (wp)
noncomputable def qag (s:U2):Sem T1:=orcV (.str s 0) >>= λv=>match v with
 | .str s _=>orcB (decide (s.length>sizeLine)) >>= λb=>match b with
  | true=>T7 "str:memory"
  | false=>fresh >>= λt=>pure (.str s t)
 | _=>T7 "str"
noncomputable def jm (x y:U2):Int:=match Builtin.Str.occurrences x y 0 x.length 1 with
 | i::_=>(i:Int)
 | [] => -1
noncomputable def qsW (args:Args):Sem PySem.Fin:=match args.kw with
 | []=>match args.pos with
  | [x,y]=>match x with
   | .str x t=>match y with
    | .str y u=>fresh >>= λt=>orcV (.int (jm x y) t) >>= λv=>ret v
    | _=>T7 "find"
   | _=>T7 "find"
  | _=>T7 "find"
 | _=>T7 "find"
noncomputable def q9 (s:U2) (ps:Option Int×Option Int×Int):U2:=⟨((Builtin.Str.strSliceIndices ps.1 ps.2.1 ps.2.2 s.length).filterMap (s.cps[·]?)).toArray⟩
noncomputable def qG (s:U2) (ps:Option Int×Option Int×Int):Bool:=ps.2.2==1&&(Builtin.Str.strSliceIndices ps.1 ps.2.1 ps.2.2 s.length).length==s.length
noncomputable def qav (s:U2) (k:Int):Option Nat:=(seqIndex? k s.length).bind (s.cps[·]?)
abbrev PsT:=Option Int×Option Int×Int
structure Px where
 ip:Array Nat→Array Nat→Nat→Nat→Nat→Bool
 sl:U2→PsT→U2
 wh:U2→PsT→Bool
 gl:U2→List U2→U2
 jl:U2→List U2→Bool
noncomputable def qcs (px:Px) (args:Args):Sem PySem.Fin:=slotArgs "__getitem__" 1 args >>= λr=>match r.1 with
 | .str s t=>match r.2 with
  | [i]=>typeOf i >>= λti=>match ti == .type "slice" with
   | true=>Builtin.Str.strSliceParts i >>= λps=>orcB (px.wh s ps) >>= λb=>match b with
    | true=>ret (.str s t)
    | false=>qag (px.sl s ps) >>= λv=>ret v
   | false=>match i with
    | .int k u=>specialOf (.int k u) "__index__" >>= λo=>match o.isNone with
     | true=>T7 "str"
     | false=>orcB (decide (k < -(2 ^ 63:Int))||decide (k≥2 ^ 63)) >>= λb=>match b with
     | true=>T7 "str"
     | false=>orcB (qav s k).isSome >>= λb=>match b with
      | true=>qag ⟨#[(qav s k).getD 0]⟩ >>= λv=>ret v
      | false=>T7 "str"
    | _=>T7 "str"
  | _=>T7 "str"
 | _=>T7 "str"
section
variable {α β:Type} {prog:T6} {w:T3} {A:Around}
theorem LeW.orcVp {v:T1} {f':T1→Sem β} {t:Sem β} (h:LeW prog w A (f' v) t):LeW prog w A (Mine.orcV v >>= f') t :=
 D5 (LeW.bind (f:=λa=>if a=v then t else f' a) qge λa=>by
  by_cases e:a=v
  ·subst e;rw [if_pos rfl];exact h
  ·rw [if_neg e];exact LeW.refl _) (show (if v=v then t else f' v)=t by rw [if_pos rfl])
theorem B2 {tag:String} {t' t:Sem α} (h:LeW prog w A t' t):LeW prog w A t' (rule tag >>= λ_=>t):=λA₀ c e Q E s x =>
 wpOwn_bind (m:=rule tag) (f:=λ_=>t) (wpOwn_of_wpAny (wpAny_rule (h A₀ c e Q E s x)))
theorem qbq {s:U2}:LeW prog w A (qag s) (mkStr s):=by
 unfold qag mkStr
 refine LeW.orcVp ?_
 show LeW prog w A (orcB (decide (s.length>sizeLine)) >>= _) _
 refine D0 ?_
 by_cases h:s.length>sizeLine
 ·rw [decide_eq_true h,if_pos h]
  exact B7
 ·rw [decide_eq_false h,if_neg h]
  exact LeW.bindR λt=>LeW.refl _
theorem qiD {px:Px} (hsl:px.sl=q9) (hwh:px.wh=qG) {args:Args}:LeW prog w A (qcs px args) (Builtin.«str.__getitem__» args):=by
 unfold qcs Builtin.«str.__getitem__» Builtin.Str.strSlot
 rw [hsl,hwh]
 simp only [bind_assoc]
 refine LeW.bindR λr => ?_
 obtain ⟨a,bs⟩:=r
 refine D4 λs t e1=>LeW.ps1 λi e2 => ?_
 obtain rfl:a = .str s t:=e1
 obtain rfl:bs=[i]:=e2
 show LeW prog w A _ (typeOf i >>= _)
 refine LeW.bindR λti => ?_
 cases hs:ti == .type "slice" with
 | true =>
  rw [if_pos rfl]
  refine LeW.bindR λps=>D0 ?_
  show LeW prog w A (match qG s ps with | true=>_ | false=>_) (if qG s ps=true then _ else _)
  cases qG s ps with
  | true=>exact B2 (LeW.refl _)
  | false=>exact LeW.bind qbq λ_=>LeW.refl _
 | false =>
  rw [if_neg F7]
  refine B8 λk u e3 => ?_
  rw [e3]
  refine LeW.bindR λo=>C9 λho => ?_
  rw [ho,if_neg F7]
  refine D0 (C9 λhr => ?_)
  show LeW prog w A _ (if (decide (k < -(2 ^ 63:Int))||decide (k≥2 ^ 63))=true then _ else _)
  rw [hr,if_neg F7]
  refine D0 ?_
  unfold qav
  cases (seqIndex? k s.length).bind (s.cps[·]?) with
  | none=>exact B7
  | some c=>exact LeW.bind qbq λ_=>LeW.refl _
end
end
section
open Sem (wp)
open PySem.Builtin.Re
noncomputable def qbW:Nat→Sre.M→Option Sre.M
 | 0,_=>none
 | k+1,m=>match (m.runFor reTurnSteps).outcome.isSome with
  | true=>some (m.runFor reTurnSteps)
  | false=>qbW k (m.runFor reTurnSteps)
noncomputable def qcL (m:Sre.M):Bool:=match qbW 400 m with
 | some m'=>match m'.outcome with
  | some o=>match o with
   | .failed=>true
   | _=>false
  | none=>false
 | none=>false
noncomputable def ipF:Array Nat→Array Nat→Nat→Nat→Nat→Bool:=λcode text g p l=>qcL (Sre.forSearch code text g p l false)
noncomputable def qad (px:Px) (args:Args):Sem PySem.Fin:=reTarget "re.Pattern.search" "search" args >>= λt=>orcB (px.ip t.code t.text t.groups t.pos t.lim) >>= λb=>match b with
 | true=>ret .none
 | false=>reAnswer t (Sre.forSearch t.code t.text t.groups t.pos t.lim false)
section
variable {α β:Type} {prog:T6} {w:T3} {A:Around}
theorem D2 {t' t u:Sem α} (h:LeW prog w A t' t) (e:t'=u):LeW prog w A u t:=e▸h
theorem qfs:∀(k n:Nat) (m m':Sre.M),k≤n→qbW k m=some m'→LeW prog w A (pure m') (reDrive n m)
 | 0,_,_,_,_,h=>nomatch h
 | k+1,0,_,_,hk,_=>absurd hk (by lia)
 | k+1,n+1,m,m',hk,h=>by
  unfold qbW at h
  unfold reDrive
  split at h
  ·rename_i ho
   cases h
   show LeW prog w A _ (if (m.runFor reTurnSteps).outcome.isSome=true then _ else _)
   rw [if_pos ho]
   exact LeW.refl _
  ·rename_i ho
   show LeW prog w A _ (if (m.runFor reTurnSteps).outcome.isSome=true then _ else _)
   rw [if_neg (by rw [ho];exact F7)]
   exact B2 (qfs k n _ m' (by lia) h)
theorem qbg {α:Type} {p:α→Bool} {f:α→String}:∀(l:List α),LeW prog w A (pure PUnit.unit:Sem PUnit) (forIn l PUnit.unit λi _=>(if p i=true then rule (f i) >>= λ_=>pure (.yield PUnit.unit) else pure (.yield PUnit.unit):Sem (ForInStep PUnit)))
 | []=>LeW.refl _
 | i::l=>by
  rw [L0]
  by_cases h:p i=true
  ·rw [if_pos h,bind_assoc]
   refine B2 ?_
   rw [pure_bind]
   exact qbg l
  ·rw [if_neg h,pure_bind]
   exact qbg l
noncomputable def qdF (m:Sre.M):Sem (Option Sre.M):=match m.outcome with
 | some .matched=>pure (some m)
 | some .failed=>pure none
 | some (.stuck why)=>T7 s!"_sre:{why}"
 | none=>T7 "internal:sre:no-outcome"
theorem qra {m:Sre.M} (h:qcL m=true):LeW prog w A (pure none) (reRunToEnd m):=by
 unfold qcL at h
 split at h
 ·rename_i m' hm
  split at h
  ·rename_i o ho
   split at h
   ·unfold reRunToEnd
    have z:=LeW.bind (prog:=prog) (w:=w) (A:=A) (qfs 400 (2 ^ 64) m m' (by decide) hm) (f':=λm=>(pure PUnit.unit:Sem PUnit) >>= λ_=>qdF m) (f:=λm=>(forIn (G8 Sre.names.size) PUnit.unit λi _=>(if m.seen.has i=true then rule (Sre.names.getD i "") >>= λ_=>pure (.yield PUnit.unit) else pure (.yield PUnit.unit):Sem (ForInStep PUnit))) >>= λ_=>qdF m) λa=>LeW.bind (qbg _) λ_=>LeW.refl _
    refine D2 (D5 z ?_) ?_
    ·rfl
    ·show qdF m'=pure none
     unfold qdF
     rw [ho]
   ·cases h
  ·cases h
 ·cases h
theorem qiI {px:Px} (hip:px.ip=ipF) {args:Args}:LeW prog w A (qad px args) (Builtin.«re.Pattern.search» args):=by
 unfold qad Builtin.«re.Pattern.search»
 rw [hip]
 refine LeW.bindR λt=>D0 ?_
 split
 ·rename_i h
  unfold reAnswer
  exact D5 (LeW.bind (t':=pure none) (f':=λo=>match o with
   | some m=>reNewMatch t.pattern t.string t.groups t.pos t.lim m >>= λv=>ret v
   | none=>ret .none) (qra h) λo=>LeW.refl _) rfl
 ·exact LeW.refl _
end
end
section
open Sem (wp)
noncomputable def v4:List T1→Option (List U2)
 | []=>some []
 | v::l=>match v with
  | .str s _=>match v4 l with
   | some r=>some (s::r)
   | none=>none
  | _=>none
noncomputable def zA (sep:U2) (parts:List U2):Bool:=Builtin.Str.tooLong ((⟨parts⟩:Array U2).foldl (· + ·.length+sep.length) 0)
noncomputable def qbv (px:Px) (sep:U2) (items:List T1):Sem PySem.Fin:=match v4 items with
 | some parts=>orcB (px.jl sep parts) >>= λb=>match b with
  | true=>T7 "join"
  | false=>qag (px.gl sep parts) >>= λv=>ret v
 | none=>T7 "join"
noncomputable def qdK (px:Px) (sep:U2) (items:List T1):Sem PySem.Fin:=match items with
 | [x]=>match x with
  | .str s t=>rule "str.join.same-object" >>= λ_=>ret (.str s t)
  | _=>T7 "join"
 | items=>qbv px sep items
noncomputable def qbd (px:Px) (args:Args):Sem PySem.Fin:=Builtin.Str.strOneArg "join" args >>= λr=>typeOf r.2.2 >>= λt=>match (t == .type "list"||t == .type "tuple") with
 | true=>seqItems? r.2.2 >>= λo=>match o with
  | some xs=>qdK px r.2.1 xs.toList
  | none=>T7 "join"
 | false=>(pyIter r.2.2).tryCatch (λe=>isInstance e (.type "TypeError") >>= λb=>if b=true then (rule "str.join.not-iterable" >>= λ_=>raiseError "TypeError" "can only join an iterable") else throw e) >>= λit=>collect it >>= λitems=>qdK px r.2.1 items
section
variable {α β:Type} {prog:T6} {w:T3} {A:Around}
theorem qc0 {body:T1×Nat→Array U2→Sem (ForInStep (Array U2))} (hb:∀s t i acc,body (.str s t,i) acc=pure (.yield (acc.push s))):∀(items:List T1) (parts:List U2) (k:Nat) (acc:Array U2),v4 items=some parts→forIn (items.zipIdx k) acc body=(pure (⟨acc.toList++parts⟩:Array U2):Sem (Array U2))
 | [],parts,k,acc,h=>by
  cases h
  simp
 | v::l,parts,k,acc,h=>by
  unfold v4 at h
  split at h
  ·rename_i s t
   split at h
   ·rename_i r hr
    cases h
    rw [List.zipIdx_cons,L0,hb,pure_bind]
    show forIn (l.zipIdx (k+1)) (acc.push s) body=_
    rw [qc0 hb l r (k+1) (acc.push s) hr]
    simp
   ·cases h
  ·cases h
theorem qnl {px:Px} (hgl:px.gl=Builtin.Str.glued) (hjl:px.jl=zA) {sep:U2} {items:List T1} {body:T1×Nat→Array U2→Sem (ForInStep (Array U2))} (hb:∀s t i acc,body (.str s t,i) acc=pure (.yield (acc.push s))) {G:Array U2→Sem PySem.Fin}
  (hG:∀parts:List U2,zA sep parts=false→G ⟨parts⟩=retStr (Builtin.Str.glued sep parts)):LeW prog w A (qbv px sep items) (forIn items.zipIdx #[] body >>= G):=by
 unfold qbv
 rw [hgl,hjl]
 split
 ·rename_i parts h
  rw [qc0 hb items parts 0 #[] h,pure_bind]
  refine D0 ?_
  split
  ·exact B7
  ·rename_i hl
   show LeW prog w A _ (G ⟨parts⟩)
   rw [hG parts hl]
   exact LeW.bind qbq λ_=>LeW.refl _
 ·exact B7
theorem qf3 {px:Px} (hgl:px.gl=Builtin.Str.glued) (hjl:px.jl=zA) {sep:U2} {items:List T1} {body:T1×Nat→Array U2→Sem (ForInStep (Array U2))} (hb:∀s t i acc,body (.str s t,i) acc=pure (.yield (acc.push s))) {G:Array U2→Sem PySem.Fin}
  (hG:∀parts:List U2,zA sep parts=false→G ⟨parts⟩=retStr (Builtin.Str.glued sep parts)):LeW prog w A (qdK px sep items) (match items with
   | [x]=>if Builtin.Str.isExactStr x=true then (rule "str.join.same-object" >>= λ_=>ret x) else forIn items.zipIdx #[] body >>= G
   | x=>forIn items.zipIdx #[] body >>= G):=by
 unfold qdK
 split
 ·split
  ·exact LeW.refl _
  ·exact B7
 ·exact qnl hgl hjl hb hG
theorem qnu {px:Px} (hgl:px.gl=Builtin.Str.glued) (hjl:px.jl=zA) {args:Args}:LeW prog w A (qbd px args) (Builtin.«str.join» args):=by
 unfold qbd Builtin.«str.join»
 refine LeW.bindR λr => ?_
 obtain ⟨a,sep,it⟩:=r
 refine LeW.bindR λt => ?_
 split
 ·rename_i ht
  simp only [ht,↓reduceIte]
  refine LeW.bindR λo => ?_
  split
  ·exact qf3 hgl hjl (λ_ _ _ _=>rfl) λparts h=>(if_neg (by unfold zA at h;rw [h];exact F7))
  ·exact B7
 ·rename_i ht
  simp only [ht,K3,↓reduceIte]
  refine LeW.bindR λit=>LeW.bindR λitems => ?_
  exact qf3 hgl hjl (λ_ _ _ _=>rfl) λparts h=>(if_neg (by unfold zA at h;rw [h];exact F7))
end
structure qim (px:Px):Prop where
 ip:px.ip=ipF
 sl:px.sl=q9
 wh:px.wh=qG
 gl:px.gl=Builtin.Str.glued
 jl:px.jl=zA
noncomputable def pxF:Px:=⟨ipF,q9,qG,Builtin.Str.glued,zA⟩
theorem qp3:qim pxF:=⟨rfl,rfl,rfl,rfl,rfl⟩
end
section
open Sem (wp)
noncomputable def ws (px:Px) (id:String):Option (Args→Sem PySem.Fin) :=
 match decide (id="generator.__next__") with
 | true=>some qhB
 | false=>match decide (id="list.__contains__.loop") with
  | true=>some qde
  | false=>match decide (id="list.__eq__.loop") with
   | true=>some qgp
   | false=>match decide (id="str.__new__") with
    | true=>some qgl
    | false=>match decide (id="tuple.__ne__") with
     | true=>some qdY
     | false=>match decide (id="sum") with
      | true=>some qpw
      | false=>match decide (id="sum.loop") with
       | true=>some qd1
       | false=>match decide (id="list.index.loop") with
        | true=>some qjR
        | false=>match decide (id="list.extend") with
         | true=>some qeP
         | false=>match decide (id="list.__init__") with
          | true=>some qc6
          | false=>match decide (id="len") with
           | true=>some qk5
           | false=>match decide (id="list.__setitem__") with
            | true=>some qd5
            | false=>match decide (id="list.__iadd__") with
             | true=>some qc7
             | false=>match decide (id="super.__getattribute__") with
              | true=>some qc1
              | false=>match decide (id="str.__getitem__") with
               | true=>some (qcs px)
               | false=>match decide (id="str.join") with
                | true=>some (qbd px)
                | false=>match decide (id="re.Pattern.search") with
                 | true=>some (qad px)
                 | false=>none
noncomputable def denF (px:Px) (c:Code):Sem PySem.Fin:=match c with
 | .func body env=>qmx body env
 | .whileLoop test body orelse env=>(qio test body orelse env).onRaise λx=>noteFrame x env >>= λ_=>theTreesLotGoes x
 | .forLoop target it body orelse env=>(qlA target it body orelse env).onRaise λx=>noteFrame x env >>= λ_=>theTreesLotGoes x
 | .compLoop e depth it acc env=>match e with
  | .ListComp elt gens sc p=>match (Code.compLoop (.ListComp elt gens sc p) depth it acc env).isFrame with
   | true=>denote treeTable (.compLoop (.ListComp elt gens sc p) depth it acc env)
   | false=>(qid elt gens sc p depth it acc env).onRaise λx=>noteFrame x env >>= λ_=>theTreesLotGoes x
  | e=>denote treeTable (.compLoop e depth it acc env)
 | .compStart e depth it acc env=>match (Code.compStart e depth it acc env).isFrame with
  | true=>denote treeTable (.compStart e depth it acc env)
  | false=>(wD e depth it acc env).onRaise λx=>noteFrame x env >>= λ_=>T8 theWindowsPlace
 | .builtin id args=>match ws px id with
  | some b=>b args
  | none=>denote treeTable (.builtin id args)
 | .call f args=>qdR f args
 | c=>denote treeTable c
theorem qj8 (test:Expr) (body orelse:List Stmt) (env:Env):denote table (.whileLoop test body orelse env)=(whileTurn test body orelse env).onRaise λx=>noteFrame x env >>= λ_=>theTreesLotGoes x:=(rfl)
theorem qoM (target:Expr) (it:T1) (body orelse:List Stmt) (env:Env):denote table (.forLoop target it body orelse env)=(forTurn target it body orelse env).onRaise λx=>noteFrame x env >>= λ_=>theTreesLotGoes x:=(rfl)
theorem qlN (e:Expr) (depth:Nat) (it acc:T1) (env:Env):denote table (.compLoop e depth it acc env)=if (Code.compLoop e depth it acc env).isFrame=true then (compTurn e depth it acc env).onRaise (leaving env) else (compTurn e depth it acc env).onRaise λx=>noteFrame x env >>= λ_=>theTreesLotGoes x:=(rfl)
theorem qcS:entryFor table "list.__contains__.loop"=some Builtin.«list.__contains__.loop»:=PySem.MeetsSeq.entry_contains_loop
theorem qfo:entryFor table "list.__eq__.loop"=some Builtin.«list.__eq__.loop»:=PySem.MeetsSeq3.entry_eq_loop
theorem qfn:entryFor table "str.__new__"=some Builtin.«str.__new__»:=PySem.F.entry_str_new
theorem qfR:entryFor table "tuple.__ne__"=some Builtin.«tuple.__ne__»:=PySem.F.entry_tuple_ne
theorem entry_sum:entryFor table "sum"=some Builtin.«sum»:=PySem.F.entry_sum
theorem qdk:entryFor table "sum.loop"=some Builtin.«sum.loop»:=PySem.F.entry_sum_loop
theorem qfS:entryFor table "list.index.loop"=some Builtin.«list.index.loop»:=PySem.MeetsSeq.entry_index_loop
theorem qdm:entryFor table "list.extend"=some Builtin.«list.extend»:=PySem.F.entry_list_extend
theorem qcQ:entryFor table "list.__init__"=some Builtin.«list.__init__»:=PySem.F.entry_list_init
theorem entry_len:entryFor table "len"=some Builtin.«len»:=PySem.entry_len
theorem qdl:entryFor table "list.__setitem__"=some Builtin.«list.__setitem__»:=PySem.F.entry_list_setitem
theorem qcR:entryFor table "list.__iadd__"=some Builtin.«list.__iadd__»:=PySem.F.entry_list_iadd
theorem qcO:entryFor table "super.__getattribute__"=some Builtin.«super.__getattribute__»:=PySem.F.ks_entry_super_ga
theorem qcP:entryFor table "re.Pattern.search"=some Builtin.«re.Pattern.search»:=entryFor_of_tree (by kernel_rfl)
theorem qcm (px:Px):ws px "claim.caller"=none:=by kernel_rfl
theorem ql0 (px:Px) (a:Args):∃x,denF px (.builtin "claim.caller" a) = .unsupported x:=by
 refine ⟨((withoutEnding? "claim.caller" "#data").getD "claim.caller"),?_⟩
 show (match ws px "claim.caller" with
  | some b=>b a
  | none=>denote treeTable (.builtin "claim.caller" a))=_
 rw [qcm px]
 exact qlM qhp
section
variable {prog:T6} {w:T3} {A:Around}
noncomputable def qaC (prog:T6) (w:T3) (A:Around) (id:String) (args:Args) (o:Option (Args→Sem PySem.Fin)):Prop:=match o with
 | some b=>LeW prog w A (b args) (denote table (.builtin id args))
 | none=>True
theorem qaC.orD {id id0:String} {args:Args} {b:Args→Sem PySem.Fin} {o:Option (Args→Sem PySem.Fin)} (h:LeW prog w A (b args) (denote table (.builtin id0 args))) (r:qaC prog w A id args o):qaC prog w A id args (match decide (id=id0) with | true=>some b | false=>o):=by
 cases hd:decide (id=id0) with
 | false=>exact r
 | true =>
  rw [of_decide_eq_true hd]
  exact h
theorem qaC.or {id id0:String} {args:Args} {b:Args→Sem PySem.Fin} {B:Builtin} {o:Option (Args→Sem PySem.Fin)} (hE:entryFor table id0=some B) (h:LeW prog w A (b args) (B args)) (r:qaC prog w A id args o):qaC prog w A id args (match decide (id=id0) with | true=>some b | false=>o) :=
 qaC.orD (by rw [uB hE];exact h) r
theorem qlB (hd:A.depth<U0) (hu:A.units<cLine) {id:String} {args:Args} {px:Px} (hp:qim px):qaC prog w A id args (ws px id) :=
 .orD (qjz hd entry_gen_next) <| .or qcS (qfU hu) <| .or qfo (qj1 hu) <| .or qfn (qjA hu) <| .or qfR (qkz hu) <| .or entry_sum qpv <| .or qdk qgJ <|
 .or qfS (qlb hu) <| .or qdm qhF <| .or qcQ qfO <| .or entry_len qqq <| .or qdl qgN <| .or qcR qfP <| .or qcO qfH <|
 .or PySem.F.entry_str_getitem (qiD hp.sl hp.wh) <| .or PySem.F.entry_str_join (qnu hp.gl hp.jl) <| .or qcP (qiI hp.ip) True.intro
theorem qaE {c:Code}:LeW prog w A (denote treeTable c) (denote table c):=by
 rw [table_eq_tree]
 exact LeW.refl _
theorem qcZ {c:Code} {t:Sem PySem.Fin} (h:t=denote treeTable c):LeW prog w A t (denote table c):=h▸qaE
theorem qsB (hd:A.depth<U0) (hu:A.units<cLine) {px:Px} (hp:qim px) {c:Code}:LeW prog w A (denF px c) (denote table c):=by
 cases c with
 | func=>exact qnW hd hu _ _
 | whileLoop=>exact D5 (LeW.onRaise (qkt hd hu _ _ _ _)) (qj8 _ _ _ _).symm
 | forLoop=>exact D5 (LeW.onRaise (qqW hd hu _ _ _ _ _)) (qoM _ _ _ _ _).symm
 | compLoop e depth it acc env =>
  cases e with
  | ListComp elt gens sc p =>
   show LeW prog w A (match (Code.compLoop (.ListComp elt gens sc p) depth it acc env).isFrame with
    | true=>denote treeTable (.compLoop (.ListComp elt gens sc p) depth it acc env)
    | false=>(qid elt gens sc p depth it acc env).onRaise λx=>noteFrame x env >>= λ_=>theTreesLotGoes x) _
   cases hf:(Code.compLoop (.ListComp elt gens sc p) depth it acc env).isFrame with
   | true=>exact qaE
   | false =>
    rw [qlN,hf,if_neg F7]
    exact LeW.onRaise (qoR hd hu _ _ _ _ _ _ _ _)
  | _=>exact qcZ rfl
 | compStart e depth it acc env =>
  show LeW prog w A (match (Code.compStart e depth it acc env).isFrame with
   | true=>denote treeTable (.compStart e depth it acc env)
   | false=>(wD e depth it acc env).onRaise λx=>noteFrame x env >>= λ_=>T8 theWindowsPlace) _
  cases hf:(Code.compStart e depth it acc env).isFrame with
  | true=>exact qaE
  | false =>
   rw [qdd,hf,if_neg F7]
   exact LeW.onRaise qkJ
 | builtin id args =>
  have z:=qlB (prog:=prog) (w:=w) hd hu (id:=id) (args:=args) hp
  show LeW prog w A (match ws px id with
   | some b=>b args
   | none=>denote treeTable (.builtin id args)) _
  cases hb:ws px id with
  | none=>exact qaE
  | some b =>
   rw [hb] at z
   exact z
 | call=>exact qo2 hd _ _
 | _=>exact qcZ rfl
end
theorem qky {A:Around} {c:Code} (h:c.isCaller=false):(A.under c).depth≤A.depth+5∧(A.under c).units≤A.units+10:=by
 exact ⟨L5 (jQ c h).1 _,L5 (jQ c h).2 _⟩
theorem qkx {a b n:Nat} (h:a≤b+5) (h':b+10<n):a<n:=O0 (E7 h (L5 (by decide) b)) h'
theorem qis {a b n:Nat} (h:a≤b+10) (h':b+20<n):a<n:=O0 (E7 h (L5 (by decide) b)) h'
theorem qr0 {prog:T6} {w:T3} {A:Around} {c:Code} {s:T2} {P:End→T2→Prop} (h:SegX (model prog w) A c (denSF c) [] s P):SegX (model prog w) A c (denote table c) [] s P:=by
 have o:SegX (model prog w) A c (denote treeTable c) [] s P→SegX (model prog w) A c (denote table c) [] s P:=λh=>by
  rw [table_eq_tree]
  exact h
 cases c with
 | compStart e depth it acc env =>
  have h:SegX (model prog w) A (.compStart e depth it acc env) (match (Code.compStart e depth it acc env).isFrame with
   | true=>wD e depth it acc env
   | false=>denote treeTable (.compStart e depth it acc env)) [] s P:=h
  cases hf:(Code.compStart e depth it acc env).isFrame with
  | true =>
   rw [hf] at h
   rw [qdd,hf,if_pos rfl]
   exact qiH h
  | false =>
   rw [hf] at h
   exact o h
 | _=>exact o h
theorem okF {px:Px} (hx:qim px) {F:FP} {prog:T6} {w:T3} {A₀:Around} {s₀:T2} (hp:F.V.prog=prog) (hs:F.denS=denote table) (hg:F.denG=denSF) (hq:F.qt=Code.quiet) (hd:F.den=denF px) (hfr:∀l,F.V.fr=some l→A₀.frames=some l):qaD F prog w A₀ s₀ where
 hfr:=hfr
 hprog:=hp
 denS:=hs
 denG:=λA c s P h=>qr0 (by rw [hg] at h;exact h)
 qt:=hq
 den:=λA c Q E s h1 h2 x=>by
  rw [hd] at x
  cases hc:c.isCaller with
  | true =>
   obtain ⟨a,rfl⟩:=qdf hc
   obtain ⟨y,e⟩:=ql0 px a
   rw [e] at x
   exact x.elim
  | false =>
   have z:=qky (A:=A) hc
   exact qsB (A:=A.under c) (qkx z.1 h1) (qis z.2 h2) hx A c rfl Q E s x
 uns:=λa=>by rw [hd];exact ql0 px a
end
structure FA where
 p:Nat→Pos
 b:Nat→List (Code×Pos)
 c:Nat→Nat→Nat
inductive vG where
 | done (r:Result) (σ:FS)
 | call (c:Code) (κ:FK) (σ:FS)
 | bad
noncomputable def vG.fs:vG→Option FS
 | .done _ σ=>some σ
 | .call _ _ σ=>some σ
 | .bad=>none
noncomputable def endF (a:FA):FO→Nat→vG
 | .done r σ,_ => .done r σ
 | .call c κ σ,_ => .call c κ σ
 | .ctr f,n=>endF a (f (a.c n)) (n+1)
 | .stk f,n=>endF a (f (a.p n) (a.b n)) (n+1)
 | .pos f,n=>endF a (f (a.p n)) (n+1)
 | .bad _ _,_ => .bad
noncomputable def AllF (P:vG→Prop):FO→Prop
 | .done r σ=>P (.done r σ)
 | .call c κ σ=>P (.call c κ σ)
 | .ctr f=>∀ν,AllF P (f ν)
 | .stk f=>∀p b,AllF P (f p b)
 | .pos f=>∀p,AllF P (f p)
 | .bad _ _=>P .bad
theorem qaZ {a a':FA}:∀(o:FO) (n:Nat),(∀m,n≤m→a.p m=a'.p m∧a.b m=a'.b m∧a.c m=a'.c m)→endF a o n=endF a' o n
 | .done _ _,_,_=>rfl
 | .call _ _ _,_,_=>rfl
 | .bad _ _,_,_=>rfl
 | .ctr f,n,h=>by
  show endF a (f (a.c n)) (n+1)=endF a' (f (a'.c n)) (n+1)
  rw [(h n (F4 _)).2.2]
  exact qaZ _ _ λm hm=>h m (by lia)
 | .stk f,n,h=>by
  show endF a (f (a.p n) (a.b n)) (n+1)=endF a' (f (a'.p n) (a'.b n)) (n+1)
  rw [(h n (F4 _)).1,(h n (F4 _)).2.1]
  exact qaZ _ _ λm hm=>h m (by lia)
 | .pos f,n,h=>by
  show endF a (f (a.p n)) (n+1)=endF a' (f (a'.p n)) (n+1)
  rw [(h n (F4 _)).1]
  exact qaZ _ _ λm hm=>h m (by lia)
noncomputable def FA.put (a:FA) (n:Nat) (p:Pos) (b:List (Code×Pos)) (c:Nat→Nat):FA:=⟨λm=>if m=n then p else a.p m,λm=>if m=n then b else a.b m,λm=>if m=n then c else a.c m⟩
theorem qex (a:FA) (n:Nat) (p:Pos) (b:List (Code×Pos)) (c:Nat→Nat) (o:FO):endF (a.put n p b c) o (n+1)=endF a o (n+1) :=
 qaZ o _ λm hm=>by
  have:m≠n:=by lia
  exact ⟨if_neg this,if_neg this,if_neg this⟩
theorem wZ {P:vG→Prop}:∀(o:FO) (n:Nat),(∀a,P (endF a o n))→AllF P o
 | .done r σ,n,h=>h ⟨λ_=>default,λ_=>[],λ_ _=>0⟩
 | .call _ _ _,n,h=>h ⟨λ_=>default,λ_=>[],λ_ _=>0⟩
 | .bad _ _,n,h=>h ⟨λ_=>default,λ_=>[],λ_ _=>0⟩
 | .ctr f,n,h=>λν=>wZ _ (n+1) λa=>by
  have e:=h (a.put n default [] ν)
  have:endF (a.put n default [] ν) (.ctr f) n=endF (a.put n default [] ν) (f ν) (n+1):=congrArg (λc=>endF _ (f c) (n+1)) (if_pos rfl)
  rw [this,qex] at e
  exact e
 | .stk f,n,h=>λp b=>wZ _ (n+1) λa=>by
  have e:=h (a.put n p b λ_=>0)
  have:endF (a.put n p b λ_=>0) (.stk f) n=endF (a.put n p b λ_=>0) (f p b) (n+1):=(congrArg (λc=>endF _ (f c _) (n+1)) (if_pos rfl)).trans (congrArg (λc=>endF _ (f p c) (n+1)) (if_pos rfl))
  rw [this,qex] at e
  exact e
 | .pos f,n,h=>λp=>wZ _ (n+1) λa=>by
  have e:=h (a.put n p [] λ_=>0)
  have:endF (a.put n p [] λ_=>0) (.pos f) n=endF (a.put n p [] λ_=>0) (f p) (n+1):=congrArg (λc=>endF _ (f c) (n+1)) (if_pos rfl)
  rw [this,qex] at e
  exact e
noncomputable def qsR (F:FP) (prog:T6) (w:T3) (A₀:Around) (R₀:Result→T2→Prop) (s₀:T2):vG→Prop
 | .done r σ=>FEq σ∧∀s,FRep F.V s₀ σ s→R₀ r s
 | .call c κ σ=>FEq σ∧∀s,FRep F.V s₀ σ s→codeAny (model prog w) (arK A₀ κ) c (endK prog w A₀ R₀ κ) s
 | .bad=>False
theorem wz {F:FP} {prog:T6} {w:T3} {A₀:Around} {R₀:Result→T2→Prop} {s₀:T2}:∀{o:FO},AllF (qsR F prog w A₀ R₀ s₀) o→GoodF F prog w A₀ R₀ s₀ o
 | .done _ _,h=>h
 | .call _ _ _,h=>h
 | .bad _ _,h=>h.elim
 | .ctr _,h=>λν=>wz (h ν)
 | .stk _,h=>λp b=>wz (h p b)
 | .pos _,h=>λp=>wz (h p)
noncomputable def qlO:Code→Sem Fin:=Fast.tw11892475500146522536 Fast.tw14364793385576792824
theorem qsA:denote table=qlO:=by
 unfold qlO
 rw [←Fast.te11892475500146522536,←Fast.te14364793385576792824,table_eq_tree]
theorem denF_self:denF=denF:=rfl
theorem denSF_self:denSF=denSF:=rfl
theorem rawN_self:rawN=rawN:=rfl
end Mine
lay_quick Mine.denF Mine.denSF Mine.rawN
name_quick denFQ for Mine.denF by Mine.denF_self
name_quick denGQ for Mine.denSF by Mine.denSF_self
name_quick rawQ for Mine.rawN by Mine.rawN_self
namespace Mine
noncomputable def qcK (b:Bool) (p:T4):T4:={p with followText:=λr=>match decide (r="special-get-raises") with | true=>b | false=>p.followText r}
theorem qnY (p:T4):p=qcK (p.followText "special-get-raises") p:=by
 cases p
 unfold qcK
 congr 1
 funext r
 split
 ·rename_i h
  rw [of_decide_eq_true h]
 ·rfl
theorem qnX (p:T4):p=qcK false p∨p=qcK true p:=by
 have e:=qnY p
 cases h:p.followText "special-get-raises" with
 | false=>exact .inl (by rw [h] at e;exact e)
 | true=>exact .inr (by rw [h] at e;exact e)
noncomputable def mF (prog:T6) (par:T4) (kt:Nat→Option Obj) (own:List Nat) (n0 g0:Nat) (fr:Option (List Env)):FP:=⟨⟨prog,qcK false par,qcK true par,kt,own,n0,[],g0,fr⟩,PySem.W.Fast.denFQ pxF,qlO,PySem.W.Fast.denGQ,PySem.W.ZFast.zw17772548960776305114⟩
noncomputable def sg (T:BT) (ads:List Nat) (N t0 gN:Nat) (hs:List Nat) (ih:List (Nat×T1)) (cs:List CH) (fz:List Key):FS:=⟨T,vD ads,ads,N,t0,0,[],gN,0,hs,ih,cs,[],[],[],[],[],[],fz,[]⟩
noncomputable def nu (x y z:Nat) (tl:List Nat) (i:Nat):Nat:=match i with
 | 0=>x
 | 1=>y
 | 2=>z
 | i+3=>adF tl 0 i
noncomputable def nug (x y z:Nat) (f:Nat→Nat) (i:Nat):Nat:=match i with
 | 0=>x
 | 1=>y
 | 2=>z
 | i+3=>f i
noncomputable def upto:Nat→List Nat→List Nat
 | 0,l=>l
 | n+1,l=>upto n (n::l)
set_option genInjectivity true in
structure Sm where
 r:vH
 own:List Nat
 post:Option (List Obj)
 news:Option (List Obj)
 nads:List Nat
 eqs:List Nat
 vqs:List (T1×T1)
 oqs:List (List Obj)
 cqs:List Code
 aqs:List (Sem PySem.Fin)
 kqs:List (List Key)
 sqs:List Prop
noncomputable def sumL (m:Nat) (js:List Nat):vG→Option Sm
 | .done r σ=>some ⟨.done r,(upto m []).map (adF σ.ad σ.N),getAll σ.T (upto m []),getAll σ.T js,js.map (adF σ.ad σ.N),σ.eqs.map (·.1),σ.vqs,σ.oqs.map (·.1),σ.cqs.map (·.1),σ.aqs.map (·.1),σ.kqs.map (·.1),σ.sqs⟩
 | .call c κ σ=>match κ with
  | .base=>some ⟨.go c,(upto m []).map (adF σ.ad σ.N),getAll σ.T (upto m []),getAll σ.T js,js.map (adF σ.ad σ.N),σ.eqs.map (·.1),σ.vqs,σ.oqs.map (·.1),σ.cqs.map (·.1),σ.aqs.map (·.1),σ.kqs.map (·.1),σ.sqs⟩
  | _=>none
 | .bad=>none
noncomputable def wH (C:Ctr) (ads:List Nat) (ν:Nat→Nat) (vq:List (T1×T1)) (sq:List Prop:=[]):vG→Option Sm
 | .done r σ=>some ⟨C.res ads ν,ads,some (C.post ads ν),some (C.news ads ν),nuFrom ν 3 (C.news ads ν),σ.eqs.map (·.2),vq,σ.oqs.map (·.2),σ.cqs.map (·.2),σ.aqs.map (·.2),σ.kqs.map (·.2),sq⟩
 | .call _ _ σ=>some ⟨C.res ads ν,ads,some (C.post ads ν),some (C.news ads ν),nuFrom ν 3 (C.news ads ν),σ.eqs.map (·.2),vq,σ.oqs.map (·.2),σ.cqs.map (·.2),σ.aqs.map (·.2),σ.kqs.map (·.2),sq⟩
 | .bad=>some ⟨C.res ads ν,[],none,none,[],[],[],[],[],[],[],[]⟩
noncomputable def endT (t:Sem PySem.Fin) (prog:T6) (par:T4) (kt:Nat→Option Obj) (n:Nat) (c:Code) (ads:List Nat) (os:List Obj) (N t0 gN:Nat) (hs:List Nat) (ih:List (Nat×T1)) (cs:List CH) (fz:List Key) (fr:Option (List Env)) (a:FA):vG:=match insAll .nil 0 os with
 | some T=>endF a (runF (mF prog par kt ads N gN fr) n c none .base t (sg T ads N t0 gN hs ih cs fz)) 0
 | none => .bad
noncomputable def endC (prog:T6) (par:T4) (kt:Nat→Option Obj) (n:Nat) (c:Code) (ads:List Nat) (os:List Obj) (N t0 gN:Nat) (hs:List Nat) (ih:List (Nat×T1)) (cs:List CH) (fz:List Key) (fr:Option (List Env)) (a:FA):vG:=endT (PySem.W.Fast.denFQ pxF c) prog par kt n c ads os N t0 gN hs ih cs fz fr a
theorem yV {α:Type}:∀{l:List (α×α)},l.map (·.1)=l.map (·.2)→∀p∈l,p.1=p.2
 | [],_,_,h=>nomatch h
 | x::l,e,p,h=>by
  rw [O2,O2,List.cons.injEq] at e
  rcases E2.mp h with rfl | h
  ·exact e.1
  ·exact yV e.2 p h
theorem qp7 {prog:T6} {w:T3} {kt:Nat→Option Obj} {own:List Nat} {n0 g0:Nat} {fr:Option (List Env)} {A₀:Around} {s₀:T2} (h:∀l,fr=some l→A₀.frames=some l):qaD (mF prog w.params kt own n0 g0 fr) prog w A₀ s₀ :=
 okF qp3 rfl (qsA.symm) PySem.W.Fast.denGQ_eq.symm PySem.W.ZFast.ze17772548960776305114.symm (congrFun PySem.W.Fast.denFQ_eq.symm pxF) h
theorem Objs.len {h:Heap}:∀{as:List Nat} {os:List Obj},Objs h as os→as.length=os.length
 | [],[],_=>rfl
 | _::_,_::_,H=>congrArg G6 (Objs.len H.2)
 | [],_::_,H=>H.elim
 | _::_,[],H=>H.elim
theorem qeM {j:Nat}:∀(n:Nat) (l:List Nat),j∈upto n l→j<n∨j∈l
 | 0,l,h => .inr h
 | n+1,l,h=>by
  rcases qeM n _ h with h | h
  ·exact .inl (by lia)
  ·rcases E2.mp h with rfl | h
   ·exact .inl (by lia)
   ·exact .inr h
theorem qgk (i:Nat):BT.nil.get i=none:=by cases i <;> rfl
theorem qbe {prog:T6} {w:T3} {kt:Nat→Option Obj} {lev:Nat} {C:Ctr} {ads:List Nat} (t:Sem PySem.Fin) (m n:Nat) (js:List Nat) (hs:List Nat) (ih:List (Nat×T1)) (cs:Nat→Nat→Nat→List CH) (vq:FA→Nat→Nat→Nat→List (T1×T1)) (tl:FA→Nat→Nat→Nat→Nat→Nat) (sq:FA→Nat→Nat→Nat→List Prop)
  (hkp:∀ads ν,C.kpost ads ν=[]) (hc:∀ads,(C.code ads).isCaller=false) (hm:(C.pre ads).length=m) (hjs:js.Nodup) (hjm:∀j∈js,m≤j)
  (hcs:∀N t0 gN,AllValid prog w kt lev (cs N t0 gN))
  (hvq:∀a N t0 gN,∀p∈vq a N t0 gN,p.1=p.2) (hsq:∀a N t0 gN,∀P∈sq a N t0 gN,P) (hfs:C.fside=none)
  (H:∀N t0 gN a x y z,sumL m js (endT t prog w.params kt n (C.code ads) ads (C.pre ads) N t0 gN hs ih (cs N t0 gN) C.frz (frOf C ads) a)=wH C ads (nug x y z (tl a N t0 gN)) (vq a N t0 gN) (sq a N t0 gN) (endT t prog w.params kt n (C.code ads) ads (C.pre ads) N t0 gN hs ih (cs N t0 gN) C.frz (frOf C ads) a))
  (A:Around) (s:T2) (R₀:Result→T2→Prop) (h0:A.handled=none) (hd:A.depth+130*(lev+1)<U0) (hu:A.units+260*(lev+1)<cLine)
  (hkt:∀a o,kt a=some o→s.heap.get? a=some o) (hnd:ads.Nodup) (hoff:∀a∈ads,kt a=none) (hob:Objs s.heap ads (C.pre ads)) (hfz:FrzOk C kt ads s.heap) (hbare:∀x∈s.gens,x.bare=true)
  (hfin:∀ν s',Post C ads ν s s'→After prog w A R₀ s' (C.res ads ν)) (hfr:∀l,frOf C ads=some l→A.frames=some l):W prog w A (C.code ads) t (postC prog w A R₀) (postE R₀) s:=by
 have hlen:ads.length=m:=hob.len.trans hm
 have hfz:∀k∈C.frz,KeyOk kt ads s.heap k:=by unfold FrzOk at hfz;rw [hfs] at hfz;exact hfz
 have H:=H s.heap.objs.size s.toks s.gens.size
 cases hT:insAll .nil 0 (C.pre ads) with
 | none =>
  have z:=H ⟨λ_=>default,λ_=>[],λ_ _=>0⟩ 0 0 0
  unfold endT at z
  rw [hT] at z
  cases z
 | some T =>
  unfold endT at H
  rw [hT] at H
  have H:=H
  let F:=mF prog w.params kt ads s.heap.objs.size s.gens.size (frOf C ads)
  let σ:=sg T ads s.heap.objs.size s.toks s.gens.size hs ih (cs s.heap.objs.size s.toks s.gens.size) C.frz
  have hk0:∀a o,kt a=some o→a∉ads∧a<s.heap.objs.size:=λa o e =>
   ⟨λhm=>absurd ((hoff a hm).symm.trans e) (λh=>nomatch h),I0 (hkt a o e)⟩
  have O:FOk F.V w s:=⟨qnX _,rfl,hk0⟩
  have P:qaD F prog w A s:=qp7 hfr
  have low:∀a∈ads,a<s.heap.objs.size:=λa ha=>by
   obtain ⟨o,ho⟩:=hob.mem ha
   exact I0 ho
  have D:FRep F.V s σ s:={
   size:=by show s.heap.objs.size+ads.length=s.heap.objs.size+vD ads;rw [wn]
   lo:=by show ads.length≤vD ads;rw [wn];exact F4 _
   nodup:=hnd
   low:=low
   own:=λj o e=>by
    have e:T.get j=some o:=e
    rcases y5 hT e with e | ⟨k,rfl,hk⟩
    ·rw [qgk] at e;cases e
    ·have z:=hob.at (N:=s.heap.objs.size) hk
     rw [O5]
     exact ⟨by show _<vD ads;rw [wn];exact z.1,z.2⟩
   far:=λa ha => .inl ha
   base:=F4 _
   kt:=hkt
   keep:=λb o e _=>e
   toks:=rfl
   gsz:=rfl
   gens:=λj x e=>by cases j <;> cases e
   ginj:=λi j x y e=>by cases i <;> cases e
   gfar:=λj x e=>by cases j <;> cases e
   gkeep:=λ_ _ _=>rfl
   gbase:=F4 _
   bare:=hbare
   drawn:=rfl
   os:=rfl
   fz:=λk hk=>⟨(hfz k hk).1,λp hp=>⟨((hfz k hk).2 p hp).1,λj o e q=>by
    have e:T.get j=some o:=e
    have q:adF ads s.heap.objs.size j=p.1:=q
    rcases y5 hT e with e | ⟨i,rfl,hi⟩
    ·rw [qgk] at e;cases e
    ·rw [O5] at q
     exact ((hfz k hk).2 p hp).2.1 (q▸(vj low (hob.at (N:=s.heap.objs.size) hi).1).2),((hfz k hk).2 p hp).2.2⟩⟩}
  have hd0:A.depth+130*(lev+1)<U0:=hd
  have hu0:A.units+260*(lev+1)<cLine:=hu
  have M:=(qbT (R₀:=R₀) P O h0 hd0 hu0 n (C.code ads) none .base t σ ⟨hc ads,trivial⟩ trivial (hcs _ _ _) (wz (wZ _ 0 λa => ?_))).2 s D
  ·refine qrJ _ M (λfin s' h => ?_) λe s' h => ?_
   ·cases fin with
    | done f =>
     exact h
    | again c'=>exact ⟨h.1,codeAny_mono h.2 λr s'' q=>q⟩
   ·exact h
  ·have Ha:=H a
   have Ha:∀x y z,sumL m js (endF a (runF F n (C.code ads) none .base t σ) 0)=wH C ads (nug x y z (tl a s.heap.objs.size s.toks s.gens.size)) (vq a s.heap.objs.size s.toks s.gens.size) (sq a s.heap.objs.size s.toks s.gens.size) (endF a (runF F n (C.code ads) none .base t σ) 0):=Ha
   generalize endF a (runF F n (C.code ads) none .base t σ) 0=X at Ha
   have close:∀(q:vH) (σ':FS),(∀x y z,(⟨q,(upto m []).map (adF σ'.ad σ'.N),getAll σ'.T (upto m []),getAll σ'.T js,js.map (adF σ'.ad σ'.N),σ'.eqs.map (·.1),σ'.vqs,σ'.oqs.map (·.1),σ'.cqs.map (·.1),σ'.aqs.map (·.1),σ'.kqs.map (·.1),σ'.sqs⟩:Sm)=⟨C.res ads (nug x y z (tl a s.heap.objs.size s.toks s.gens.size)),ads,some (C.post ads (nug x y z (tl a s.heap.objs.size s.toks s.gens.size))),some (C.news ads (nug x y z (tl a s.heap.objs.size s.toks s.gens.size))),nuFrom (nug x y z (tl a s.heap.objs.size s.toks s.gens.size)) 3 (C.news ads (nug x y z (tl a s.heap.objs.size s.toks s.gens.size))),σ'.eqs.map (·.2),vq a s.heap.objs.size s.toks s.gens.size,σ'.oqs.map (·.2),σ'.cqs.map (·.2),σ'.aqs.map (·.2),σ'.kqs.map (·.2),sq a s.heap.objs.size s.toks s.gens.size⟩)→
     FEq σ'∧∀s',FRep F.V s σ' s'→After prog w A R₀ s' q:=by
    intro q σ' Hq
    have fe:FEq σ':=by
     have z:=Hq 0 0 0
     simp only [Sm.mk.injEq] at z
     obtain ⟨_,_,_,_,_,e1,e2,e3,e4,e5,e6,e7⟩:=z
     exact ⟨yV e1,λp hp=>hvq a _ _ _ p (e2▸hp),yV e3,yV e4,yV e5,yV e6,λP hP=>hsq a _ _ _ P (e7▸hP)⟩
    refine ⟨fe,λs' D' => ?_⟩
    obtain ⟨ν,n0,n1,n2,z⟩:∃ν:Nat→Nat,ν 0=s'.heap.objs.size∧ν 1=s'.toks∧ν 2=s'.gens.size∧(⟨q,(upto m []).map (adF σ'.ad σ'.N),getAll σ'.T (upto m []),getAll σ'.T js,js.map (adF σ'.ad σ'.N),σ'.eqs.map (·.1),σ'.vqs,σ'.oqs.map (·.1),σ'.cqs.map (·.1),σ'.aqs.map (·.1),σ'.kqs.map (·.1),σ'.sqs⟩:Sm)=⟨C.res ads ν,ads,some (C.post ads ν),some (C.news ads ν),nuFrom ν 3 (C.news ads ν),σ'.eqs.map (·.2),vq a s.heap.objs.size s.toks s.gens.size,σ'.oqs.map (·.2),σ'.cqs.map (·.2),σ'.aqs.map (·.2),σ'.kqs.map (·.2),sq a s.heap.objs.size s.toks s.gens.size⟩ :=
     ⟨nug s'.heap.objs.size s'.toks s'.gens.size (tl a s.heap.objs.size s.toks s.gens.size),rfl,rfl,rfl,Hq s'.heap.objs.size s'.toks s'.gens.size⟩
    simp only [Sm.mk.injEq] at z
    obtain ⟨er,ea,ep,en,ew,_⟩:=z
    have q1:=yG D' ep
    have q2:=yG D' en
    rw [ea] at q1
    rw [ew] at q2
    have p1:=D'.size
    have p2:=D'.lo
    have p3:s.heap.objs.size≤σ'.N:=D'.base
    have p4:=D'.gsz
    have p5:s.gens.size≤σ'.gN:=D'.gbase
    rw [er]
    refine hfin ν s' ⟨q1.1,q2.1,?_,λb hb => ?_,λb o e hb=>D'.keep b o e hb,by lia,n0.symm,n1.symm,n2.symm,by lia,λi hi=>D'.gkeep i hi (λh=>nomatch h),D'.bare,D'.drawn,D'.os,λk hk => ?_⟩
    ·rw [←ew]
     exact wJ D' hjs
    ·rw [←ew] at hb
     obtain ⟨j,hj,rfl⟩:=I6.mp hb
     rcases (D'.adr O (q2.2 j hj)).2 with h | h
     ·have h:adF σ'.ad σ'.N j∈ads:=h
      rw [←ea] at h
      obtain ⟨i,hi,e⟩:=I6.mp h
      have e:=vT D'.nodup D'.low e
      have:=hjm j hj
      rcases qeM m [] hi with h | h
      ·lia
      ·cases h
     ·exact h
    ·rw [hkp] at hk;cases hk
   cases X with
   | bad=>exact absurd (Ha 0 0 0) (by simp [sumL,wH])
   | call c κ σ' =>
    cases κ with
    | base =>
     have z:=close (.go c) σ' λx y z=>by
      have q:=Ha x y z
      simp only [sumL,wH,Option.some.injEq] at q
      exact q
     refine ⟨z.1,λs' D'=>codeAny_mono (z.2 s' D') λr s'' h => ?_⟩
     exact h
    | _=>exact absurd (Ha 0 0 0) (by simp [sumL,wH])
   | done r σ' =>
    exact close (.done r) σ' λx y z=>by
     have q:=Ha x y z
     simp only [sumL,wH,Option.some.injEq] at q
     exact q
theorem qi4 {prog:T6} {w:T3} {kt:Nat→Option Obj} {lev:Nat} {C:Ctr} {ads:List Nat} (m n:Nat) (js:List Nat) (hs:List Nat) (ih:List (Nat×T1)) (cs:Nat→Nat→Nat→List CH) (vq:FA→Nat→Nat→Nat→List (T1×T1)) (tl:FA→Nat→Nat→Nat→Nat→Nat) (sq:FA→Nat→Nat→Nat→List Prop)
  (hkp:∀ads ν,C.kpost ads ν=[]) (hc:∀ads,(C.code ads).isCaller=false) (hm:(C.pre ads).length=m) (hjs:js.Nodup) (hjm:∀j∈js,m≤j)
  (hcs:∀N t0 gN,AllValid prog w kt lev (cs N t0 gN))
  (hvq:∀a N t0 gN,∀p∈vq a N t0 gN,p.1=p.2) (hsq:∀a N t0 gN,∀P∈sq a N t0 gN,P) (hfs:C.fside=none)
  (H:∀N t0 gN a x y z,sumL m js (endC prog w.params kt n (C.code ads) ads (C.pre ads) N t0 gN hs ih (cs N t0 gN) C.frz (frOf C ads) a)=wH C ads (nug x y z (tl a N t0 gN)) (vq a N t0 gN) (sq a N t0 gN) (endC prog w.params kt n (C.code ads) ads (C.pre ads) N t0 gN hs ih (cs N t0 gN) C.frz (frOf C ads) a))
  (A:Around) (s:T2) (R₀:Result→T2→Prop) (h0:A.handled=none) (hd:A.depth+130*(lev+1)<U0) (hu:A.units+260*(lev+1)<cLine)
  (hkt:∀a o,kt a=some o→s.heap.get? a=some o) (hnd:ads.Nodup) (hoff:∀a∈ads,kt a=none) (hob:Objs s.heap ads (C.pre ads)) (hfz:FrzOk C kt ads s.heap) (hbare:∀x∈s.gens,x.bare=true)
  (hfin:∀ν s',Post C ads ν s s'→After prog w A R₀ s' (C.res ads ν)) (hfr:∀l,frOf C ads=some l→A.frames=some l):codeAny (model prog w) A (C.code ads) R₀ s:=by
 have P:qaD (mF prog w.params kt ads s.heap.objs.size s.gens.size (frOf C ads)) prog w A s:=qp7 hfr
 exact y_code _ _ _ _ _ _ (P.den A _ _ _ _ (by lia) (by lia) (qbe (PySem.W.Fast.denFQ pxF (C.code ads)) m n js hs ih cs vq tl sq hkp hc hm hjs hjm hcs hvq hsq hfs H A s R₀ h0 hd hu hkt hnd hoff hob hfz hbare hfin hfr))
theorem qdW {prog:T6} {w:T3} {kt:Nat→Option Obj} {lev:Nat} {C:Ctr} (m n:Nat) (js:List Nat) (hs:List Nat) (ih:List (Nat×T1)) (cs:List Nat→Nat→Nat→Nat→List CH) (vq:FA→List Nat→Nat→Nat→Nat→List (T1×T1)) (tl:FA→List Nat→Nat→Nat→Nat→List Nat)
  (hlev:lev≤6) (hfs:C.fside=none) (hkp:∀ads ν,C.kpost ads ν=[]) (hc:∀ads,(C.code ads).isCaller=false) (hm:∀ads,(C.pre ads).length=m) (hjs:js.Nodup) (hjm:∀j∈js,m≤j)
  (hcs:∀ads N t0 gN,AllValid prog w kt lev (cs ads N t0 gN))
  (hvq:∀a ads N t0 gN,ads.length=m→∀p∈vq a ads N t0 gN,p.1=p.2)
  (H:∀ads,ads.length=m→(∀p∈C.ok ads,p.1=p.2)→∀N t0 gN a x y z,sumL m js (endC prog w.params kt n (C.code ads) ads (C.pre ads) N t0 gN hs ih (cs ads N t0 gN) C.frz (frOf C ads) a)=wH C ads (nug x y z (adF (tl a ads N t0 gN) 0)) (vq a ads N t0 gN) [] (endC prog w.params kt n (C.code ads) ads (C.pre ads) N t0 gN hs ih (cs ads N t0 gN) C.frz (frOf C ads) a)) :
  Valid prog w kt (lev+1) C:=by
 intro A ads s R₀ h0 hd hu hkt hok hnd hoff hob hfz hbare hfin
 have hlen:ads.length=m:=hob.len.trans (hm ads)
 exact qi4 m n js hs ih (cs ads) (λa=>vq a ads) (λa N t0 gN=>adF (tl a ads N t0 gN) 0) (λ_ _ _ _=>[]) hkp hc (hm ads) hjs hjm (hcs ads) (λa N t0 gN=>hvq a ads N t0 gN hlen) (λ_ _ _ _ _ h=>nomatch h) hfs (H ads hlen hok.ok) A s R₀ h0 hd hu hkt hnd hoff hob hfz hbare hfin hok.fr
noncomputable def jN (da:Nat) (items:List T1) (n:Nat):Obj:=⟨.ref 232,some da, .seq ⟨items⟩ n,#[]⟩
noncomputable def jL:U2:=⟨#[95,105,110,105,116,105,97,108,95,115,105,122,101]⟩
noncomputable def j5 (hh:Int) (tk:U1) (h:Int) (t:U1):Obj:=⟨.type "dict",none, .dict #[⟨hh, .str jL tk, .int h t⟩] 1,#[]⟩
noncomputable def yB (vs:List T1):Obj:=⟨.none,none, .fields ⟨vs⟩,#[]⟩
noncomputable def zU (cd:Nat):Obj:=yB [.int 155 0, .int 19 0, .ref cd]
noncomputable def qn (cd:Nat):Obj:=yB [.int 158 0, .int 32 0, .ref cd]
noncomputable def vB (n:Nat) (x:U2) (t:U1) (y:U2) (u:U1):Obj:=⟨.type "tuple",none, .seq #[.str x t, .str y u] n,#[]⟩
structure IT where
 n:Nat
 x:U2
 t:U1
 y:U2
 u:U1
structure I3 where
 n:Nat
 t:U1
 u:U1
noncomputable def oI (i:I3):IT:=⟨i.n,⟨#[]⟩,i.t,⟨#[111]⟩,i.u⟩
noncomputable def xI (i:I3):IT:=⟨i.n,⟨#[32]⟩,i.t,⟨#[120]⟩,i.u⟩
noncomputable def itO (i:IT):Obj:=vB i.n i.x i.t i.y i.u
noncomputable def itL (i:IT):Int:=(↑i.x.length:Int)+(↑i.y.length:Int)
noncomputable def jp (h:Int):List IT→Int
 | []=>h
 | i::l=>jp (h+itL i) l
noncomputable def zK (ads:List Nat):Nat→Nat→List T1
 | _,0=>[]
 | j,k+1 => .ref (adF ads 0 j)::zK ads (j+1) k
noncomputable def yE (hh:Int) (tk:U1) (h:Int) (t:U1) (n:Nat) (tab:Obj) (its:List IT) (ads:List Nat):List Obj :=
 jN (adF ads 0 1) (zK ads 3 its.length) n::j5 hh tk h t::tab::its.map itO
noncomputable def un (hh:Int) (tk:U1) (h:Int) (t:U1) (n cd:Nat) (its:List IT):Ctr where
 code ads := .call (.ref 199) ⟨[.ref (adF ads 0 0)],[]⟩
 ok ads:=[(adF ads 0 2,194)]
 pre ads:=yE hh tk h t n (zU cd) its ads
 res ads ν := .done (.ok (.ret (.int (jp h its) (ν 3))))
 post ads ν:=yE hh tk h t n (zU cd) its ads
 news ads ν:=[]
 frz:=[]
noncomputable def qhG (hh:Int) (tk:U1) (h:Int) (t:U1) (n:Nat):Ctr where
 code ads := .call (.ref 199) ⟨[.ref (adF ads 0 0)],[]⟩
 ok ads:=[(adF ads 0 2,194)]
 pre ads:=yE hh tk h t n (yB []) [] ads
 res ads ν := .done (.ok (.ret (.int h (ν 3))))
 post ads ν:=yE hh tk h t n (zU (ν 4)) [] ads
 news ads ν:=[]
 frz:=[]
noncomputable def lenV (h:Int):List IT→List (T1×T1)→List (T1×T1)
 | [],l=>l
 | i::its,l=>lenV (h+itL i) its ((.bool (wV (itL i)&&wV (h+itL i)), .bool true)::(.bool (decide ((i.y.length:Int)≥2 ^ 63)), .bool false)::(.bool (decide ((i.y.length:Int)<0)), .bool false)::(.bool (decide ((i.x.length:Int)≥2 ^ 63)), .bool false)::(.bool (decide ((i.x.length:Int)<0)), .bool false)::l)
noncomputable def lenVq (h:Int) (its:List IT):List (T1×T1):=lenV h its [(.bool (wV h), .bool true)]
theorem uw {h:Int} (h0 : -1000≤h) (h1:h≤1000):wV h=true:=by
 unfold wV
 rw [decide_eq_true (by lia),decide_eq_true (by lia)];rfl
theorem qgr:∀(its:List IT) (h:Int) (l:List (T1×T1)),(∀i∈its,itL i≤2)→0≤h→h+2*its.length≤100→(∀p∈l,p.1=p.2)→∀p∈lenV h its l,p.1=p.2
 | [],_,_,_,_,_,hl=>hl
 | i::its,h,l,hi,h0,h1,hl=>by
  rw [K7] at h1
  have h2:=hi i (.head _)
  have h3:0≤itL i:=by unfold itL;lia
  have h4:(i.x.length:Int)≤2∧(i.y.length:Int)≤2:=by unfold itL at h2;constructor <;> lia
  have v:∀{a b:Bool},a=b→(Value.bool a) = .bool b:=λe=>by rw [e]
  refine qgr its _ _ (λj hj=>hi j (.tail _ hj)) (by lia) (by lia) λp hp => ?_
  rcases E2.mp hp with rfl | hp
  ·show Value.bool _=Value.bool true
   rw [uw (by lia) (by lia),uw (by lia) (by lia)];rfl
  rcases E2.mp hp with rfl | hp
  ·exact v (decide_eq_false (by lia))
  rcases E2.mp hp with rfl | hp
  ·exact v (decide_eq_false (by lia))
  rcases E2.mp hp with rfl | hp
  ·exact v (decide_eq_false (by lia))
  rcases E2.mp hp with rfl | hp
  ·exact v (decide_eq_false (by lia))
  ·exact hl p hp
theorem qeQ {its:List IT} {h:Int} (hi:∀i∈its,itL i≤2) (h0:0≤h) (h1:h+2*its.length≤100):∀p∈lenVq h its,p.1=p.2 :=
 qgr its h _ hi h0 h1 λp hp=>by
  rcases E2.mp hp with rfl | hp
  ·show Value.bool _=Value.bool true
   rw [uw (by lia) (by lia)]
  ·cases hp
noncomputable def yd:List IT→List Nat
 | []=>[]
 | i::its=>i.x.cps.toList++(i.y.cps.toList++yd its)
noncomputable def vJ (da n:Nat) (tab:Obj) (its:List IT) (ads:List Nat):List Obj:=jN da (zK ads 2 its.length) n::tab::its.map itO
noncomputable def qsX (da n cd:Nat) (its:List IT):Ctr where
 code ads := .call (.ref 206) ⟨[.ref (adF ads 0 0)],[]⟩
 ok ads:=[(adF ads 0 1,201)]
 pre ads:=vJ da n (qn cd) its ads
 res ads ν := .done (.ok (.ret (.str ⟨⟨yd its⟩⟩ (ν 3))))
 post ads ν:=vJ da n (qn cd) its ads
 news ads ν:=[]
 frz:=[]
noncomputable def qrW (da n:Nat) (its:List IT):Ctr where
 code ads := .call (.ref 206) ⟨[.ref (adF ads 0 0)],[]⟩
 ok ads:=[(adF ads 0 1,201)]
 pre ads:=vJ da n (yB []) its ads
 res ads ν := .done (.ok (.ret (.str ⟨⟨yd its⟩⟩ (ν 3))))
 post ads ν:=vJ da n (qn (ν 4)) its ads
 news ads ν:=[]
 frz:=[]
noncomputable def hk (p:T4) (s:U2):Int:=reduceHash (p.strHash s.cps)
noncomputable def qgu:U2:=⟨#[95,109,97,120,108,101,110]⟩
noncomputable def kWs:U2:=⟨#[95,99,111,110,116,105,110,117,97,116,105,111,110,95,119,115]⟩
noncomputable def qjN:U2:=⟨#[95,99,111,110,116,105,110,117,97,116,105,111,110,95,119,115,95,108,101,110]⟩
noncomputable def qjO:U2:=⟨#[95,115,112,108,105,116,99,104,97,114,115]⟩
noncomputable def qjP:U2:=⟨#[95,108,105,110,101,115]⟩
noncomputable def qqR:U2:=⟨#[95,99,117,114,114,101,110,116,95,108,105,110,101]⟩
structure RT where
 k0:U1
 k1:U1
 k2:U1
 k3:U1
 k4:U1
 k5:U1
 v0:U1
 v1:U1
 v2:U1
 v3:U1
noncomputable def qdL (d:Nat):Obj:=⟨.ref 148,some d, .plain,#[]⟩
noncomputable def qbX (p:T4) (r:RT) (lines cur:Nat):Obj:=⟨.type "dict",none, .dict #[⟨hk p qgu, .str qgu r.k0, .int 15 r.v0⟩,⟨hk p kWs, .str kWs r.k1, .str ⟨#[9,32]⟩ r.v1⟩,⟨hk p qjN, .str qjN r.k2, .int 2 r.v2⟩,⟨hk p qjO, .str qjO r.k3, .str ⟨#[32]⟩ r.v3⟩,⟨hk p qjP, .str qjP r.k4, .ref lines⟩,⟨hk p qqR, .str qqR r.k5, .ref cur⟩] 6,#[]⟩
noncomputable def qd (vs:List T1) (n:Nat):Obj:=⟨.type "list",none, .seq ⟨vs⟩ n,#[]⟩
noncomputable def qd3 (da n:Nat) (tb:Obj) (f:Nat→Nat) (its:List IT):Ctr where
 code ads := .call (.ref 206) ⟨[.ref (adF ads 0 0)],[]⟩
 ok ads:=[(adF ads 0 1,201)]
 pre ads:=vJ da n tb its ads
 res ads ν := .done (.ok (.ret (.str ⟨⟨yd its⟩⟩ (ν 3))))
 post ads ν:=vJ da n (qn (f (ν 4))) its ads
 news ads ν:=[]
 frz:=[]
noncomputable def eI (i:I3):IT:=⟨i.n,⟨#[]⟩,i.t,⟨#[]⟩,i.u⟩
noncomputable def sO:U2:=⟨#[111]⟩
noncomputable def sSp:U2:=⟨#[32]⟩
noncomputable def sX:U2:=⟨#[120]⟩
noncomputable def sE:U2:=⟨#[]⟩
noncomputable def sSl:U2:=⟨#[47]⟩
noncomputable def yH (p:T4) (r:RT) (ln:Nat) (tk:U1) (h:Int) (th:U1) (cd n:Nat) (refs:List T1) (its:List IT) (ads:List Nat):List Obj :=
 qdL (adF ads 0 1)::qbX p r ln (adF ads 0 2)::jN (adF ads 0 3) refs n::j5 (hk p jL) tk h th::zU cd::its.map itO
noncomputable def qrF (p:T4) (r:RT) (ln:Nat) (tk:U1) (h:Int) (th:U1) (cd n:Nat) (its:List IT) (t u:U1):Ctr where
 code ads := .call (.ref 145) ⟨[.ref (adF ads 0 0), .str sE t, .str sO u],[]⟩
 ok ads:=[(adF ads 0 4,194)]
 pre ads:=yH p r ln tk h th cd n (zK ads 5 its.length) its ads
 res ads ν := .done (.ok (.ret .none))
 post ads ν:=yH p r ln tk h th cd (n+1) (zK ads 5 its.length++[.ref (ν 3)]) its ads
 news ads ν:=[vB 0 sE t sO u]
 frz:=[]
noncomputable def zh (p:T4) (r:RT) (lines:List T1) (ln:Nat) (tk:U1) (h:Int) (th:U1) (cd n:Nat) (tb:Obj) (refs:List T1) (its:List IT) (ads:List Nat):List Obj :=
 qdL (adF ads 0 1)::qbX p r (adF ads 0 2) (adF ads 0 3)::qd lines ln::jN (adF ads 0 4) refs n::j5 (hk p jL) tk h th::zU cd::tb::its.map itO
noncomputable def qgM (p:T4) (r:RT) (ln:Nat) (tk:U1) (h:Int) (th:U1) (cd n:Nat) (tb:Obj) (f:Nat→Nat) (its:List IT) (t u:U1):Ctr where
 code ads := .call (.ref 145) ⟨[.ref (adF ads 0 0), .str sSp t, .str sX u],[]⟩
 ok ads:=[(adF ads 0 5,194),(adF ads 0 6,201)]
 pre ads:=zh p r [] ln tk h th cd n tb (zK ads 7 its.length) its ads
 res ads ν := .done (.ok (.ret .none))
 post ads ν:=zh p r [.str ⟨⟨yd its⟩⟩ (ν 4)] (ν 5) tk 0 (ν 6) cd (ν 7) (qn (f (ν 8))) [.ref (ν 3)] its ads
 news ads ν:=[vB 0 sSp t sX u]
 frz:=[]
noncomputable def wN (p:T4) (r:RT) (lines:List T1) (ln:Nat) (tk:U1) (h:Int) (th:U1) (cd n:Nat) (tb:Obj) (tb':(Nat→Nat)→Obj) (its:List IT) (lines':(Nat→Nat)→List T1) (s:List Nat) (u:U1):Ctr where
 code ads := .call (.ref 96) ⟨[.ref (adF ads 0 0), .str sSl u],[]⟩
 ok ads:=[(adF ads 0 5,194),(adF ads 0 6,201)]
 pre ads:=zh p r lines ln tk h th cd n tb (zK ads 7 its.length) its ads
 res ads ν := .done (.ok (.ret (.str ⟨⟨s⟩⟩ (ν 3))))
 post ads ν:=zh p r (lines' ν) (ν 4) tk 0 (ν 5) cd (ν 6) (tb' ν) [] its ads
 news ads ν:=[]
 frz:=[]
noncomputable def qkN (p:T4) (h:Int) (th t1 t2 t3:U1):Ctr where
 code ads := .call (.ref 148) ⟨[.int h th, .int 15 t1, .str ⟨#[9,32]⟩ t2, .str sSp t3],[]⟩
 ok ads:=[]
 pre ads:=[]
 res ads ν := .done (.ok (.ret (.ref (ν 3))))
 post ads ν:=[]
 news ads ν:=[qdL (ν 4),qbX p ⟨ν 8,ν 9,ν 10,ν 11,ν 12,ν 13,t1,t2,ν 14,t3⟩ (ν 5) (ν 6),qd [] 0,jN (ν 7) [] 0,j5 (hk p jL) (ν 15) h th]
 frz:=[]
noncomputable def qpz (o:Obj) (i:Nat):U1:=match o.data with
 | .seq xs _=>match lGet xs.toList i with
  | some v=>match v with
   | .str _ t=>t
   | _=>0
  | none=>0
 | _=>0
noncomputable def qB (o:Obj):Nat:=match o.data with
 | .seq _ n=>n
 | _=>0
noncomputable def wK (o:Obj):I3:=⟨qB o,qpz o 0,qpz o 1⟩
noncomputable def qcV (o:Obj):DictEntry:=match o.data with
 | .dict es _=>match es.toList with
  | e::_=>e
  | []=>⟨0, .none, .none⟩
 | _=>⟨0, .none, .none⟩
noncomputable def jR:T1→U1
 | .str _ t=>t
 | .int _ t=>t
 | _=>0
noncomputable def yo (o:Obj):Nat:=match o.data with
 | .fields vs=>match lGet vs.toList 2 with
  | some v=>match v with
   | .ref a=>a
   | _=>0
  | none=>0
 | _=>0
noncomputable def at0 (os:List Obj) (i:Nat):Obj:=match lGet os i with
 | some o=>o
 | none=>⟨.none,none, .plain,#[]⟩
noncomputable def dAt (o:Obj):Nat:=match o.dict with
 | some d=>d
 | none=>0
inductive KI where
 | o
 | x
 | e
noncomputable def KI.it:KI→I3→IT
 | .o,i=>oI i
 | .x,i=>xI i
 | .e,i=>eI i
noncomputable def itsAt:List KI→List Obj→Nat→List IT
 | [],_,_=>[]
 | k::ks,os,j=>k.it (wK (at0 os j))::itsAt ks os (j+1)
noncomputable def qA (h:Int) (ks:List KI) (os:List Obj):Ctr:=un (qcV (at0 os 1)).hash (jR (qcV (at0 os 1)).key) h (jR (qcV (at0 os 1)).val) (qB (at0 os 0)) (yo (at0 os 2)) (itsAt ks os 3)
noncomputable def wu (tb:Obj) (f:Nat→Nat) (ks:List KI) (os:List Obj):Ctr:=qd3 (dAt (at0 os 0)) (qB (at0 os 0)) tb f (itsAt ks os 2)
noncomputable def ktOf (par:T4) (a:Nat):Option Obj:=match J3 a 194 with
 | true=>none
 | false=>match J3 a 201 with
  | true=>none
  | false=>(Mine.h1.ktop_579 par).get a
noncomputable def prog:=Challenge.rw_xr0021_01.row.prog
noncomputable def RunF (w:T3) (C:Ctr) (m n:Nat) (ads js hs:List Nat) (ih:List (Nat×T1)) (cs:List CH) (vq:FA→Nat→Nat→Nat→List (T1×T1)) (tf:FA→Nat→Nat→Nat→Nat→Nat) (sq:FA→Nat→Nat→Nat→List Prop):Prop :=
 ∀N t0 gN a x y z,sumL m js (endC prog w.params (ktOf w.params) n (C.code ads) ads (C.pre ads) N t0 gN hs ih cs C.frz (frOf C ads) a)=wH C ads (nug x y z (tf a N t0 gN)) (vq a N t0 gN) (sq a N t0 gN) (endC prog w.params (ktOf w.params) n (C.code ads) ads (C.pre ads) N t0 gN hs ih cs C.frz (frOf C ads) a)
noncomputable def RunOk (w:T3) (C:Ctr) (m n:Nat) (ads js hs:List Nat) (ih:List (Nat×T1)) (cs:List CH) (vq:FA→Nat→Nat→Nat→List (T1×T1)) (tl:FA→Nat→Nat→Nat→List Nat):Prop :=
 RunF w C m n ads js hs ih cs vq (λa N t0 gN=>adF (tl a N t0 gN) 0) (λ_ _ _ _=>[])
noncomputable def VC (w:T3) (lev:Nat) (C:Ctr):Prop:=Valid prog w (ktOf w.params) lev C
noncomputable def same (a b:Nat):T1 := .bool (Builtin.List.listSameRef (.ref a) (.ref b)||false||false)
theorem B0 {prog:T6} {w:T3} {kt:Nat→Option Obj} {lev:Nat}:AllValid prog w kt lev []:=λ_ h=>nomatch h
theorem j3 {w:T3} {lev:Nat} {C:Ctr} (m n:Nat) (js hs:List Nat) (ih:List (Nat×T1)) (cs:List CH) (vq:FA→Nat→Nat→Nat→List (T1×T1)) (tl:FA→Nat→Nat→Nat→List Nat)
  (hlev:lev≤6) (hc:∀ads,(C.code ads).isCaller=false) (hm:∀ads,(C.pre ads).length=m) (hjs:js.Nodup) (hjm:∀j∈js,m≤j)
  (hcs:AllValid prog w (ktOf w.params) lev cs) (hvq:∀a N t0 gN,∀p∈vq a N t0 gN,p.1=p.2)
  (H:∀ads,ads.length=m→(∀p∈C.ok ads,p.1=p.2)→RunOk w C m n ads js hs ih cs vq tl) (hkp:∀ads ν,C.kpost ads ν=[]:=by intros;rfl) (hfs:C.fside=none:=by rfl):VC w (lev+1) C :=
 qdW m n js hs ih (λ_ _ _ _=>cs) (λa _ N t0 gN=>vq a N t0 gN) (λa _ N t0 gN=>tl a N t0 gN) hlev hfs hkp hc hm hjs hjm (λ_ _ _ _=>hcs) (λa _ N t0 gN _=>hvq a N t0 gN) λads h1 h2 N t0 gN a x y z=>H ads h1 h2 N t0 gN a x y z
theorem qbf {w:T3} {lev:Nat} {C:Ctr} {ads:List Nat} {m n:Nat} {js hs:List Nat} {ih:List (Nat×T1)} {cs:List CH} {vq:FA→Nat→Nat→Nat→List (T1×T1)} {tl:FA→Nat→Nat→Nat→Nat→Nat} {sq:FA→Nat→Nat→Nat→List Prop}
  (H:RunF w C m n ads js hs ih cs vq tl sq) (hc:∀ads,(C.code ads).isCaller=false) (hm:(C.pre ads).length=m) (hjs:js.Nodup) (hjm:∀j∈js,m≤j)
  (hcs:AllValid prog w (ktOf w.params) lev cs) (hvq:∀a N t0 gN,∀p∈vq a N t0 gN,p.1=p.2) (hsq:∀a N t0 gN,∀P∈sq a N t0 gN,P)
  (A:Around) (s:T2) (R:Result→T2→Prop) (h0:A.handled=none) (hd:A.depth+130*(lev+1)<U0) (hu:A.units+260*(lev+1)<cLine)
  (hkt:∀a o,ktOf w.params a=some o→s.heap.get? a=some o) (hnd:ads.Nodup) (hoff:∀a∈ads,ktOf w.params a=none) (hob:Objs s.heap ads (C.pre ads)) (hfz:FrzOk C (ktOf w.params) ads s.heap) (hb:∀x∈s.gens,x.bare=true)
  (hfin:∀ν s',Post C ads ν s s'→After prog w A R s' (C.res ads ν)) (hkp:∀ads ν,C.kpost ads ν=[]:=by intros;rfl) (hfs:C.fside=none:=by rfl) (hfr:∀l,frOf C ads=some l→A.frames=some l:=by intro l h;cases h):codeAny (model prog w) A (C.code ads) R s :=
 qi4 m n js hs ih (λ_ _ _=>cs) vq tl sq hkp hc hm hjs hjm (λ_ _ _=>hcs) hvq hsq hfs H A s R h0 hd hu hkt hnd hoff hob hfz hb hfin hfr
noncomputable def Ran (w:T3) (lev:Nat) (C:Ctr) (ads:List Nat):Prop:=∃m n js hs ih cs vq tl,RunOk w C m n ads js hs ih cs vq tl∧(C.pre ads).length=m∧js.Nodup∧(∀j∈js,m≤j)∧AllValid prog w (ktOf w.params) lev cs∧∀a N t0 gN,∀p∈vq a N t0 gN,p.1=p.2
theorem C2 {w:T3} {lev:Nat} {C:Ctr} {ads:List Nat} {m n:Nat} {js hs:List Nat} {ih:List (Nat×T1)} {cs:List CH} {vq:FA→Nat→Nat→Nat→List (T1×T1)} {tl:FA→Nat→Nat→Nat→List Nat} (z:RunOk w C m n ads js hs ih cs vq tl) (h4:AllValid prog w (ktOf w.params) lev cs) (h5:∀a N t0 gN,∀p∈vq a N t0 gN,p.1=p.2) (h1:(C.pre ads).length=m:=by rfl) (h2:js.Nodup:=by decide) (h3:∀j∈js,m≤j:=by decide):Ran w lev C ads:=⟨m,n,js,hs,ih,cs,vq,tl,z,h1,h2,h3,h4,h5⟩
theorem qu {w:T3} {lev:Nat} {C:Ctr} (m:Nat) (H:∀ads,ads.length=m→(∀p∈C.ok ads,p.1=p.2)→Ran w lev C ads) (hm:∀ads,(C.pre ads).length=m:=by intros;rfl) (hc:∀ads,(C.code ads).isCaller=false:=by intros;rfl) (hkp:∀ads ν,C.kpost ads ν=[]:=by intros;rfl) (hfs:C.fside=none:=by rfl):VC w (lev+1) C:=by
 intro A ads s R h0 hd hu hkt hok hnd hoff hob hfz hb hfin
 obtain ⟨_,_,_,_,_,_,_,_,z,e,h1,h2,h3,h4⟩:=H ads (hob.len.trans (hm ads)) hok.ok
 exact qbf z hc e h1 h2 h3 h4 (λ_ _ _ _ _ h=>nomatch h) A s R h0 hd hu hkt hnd hoff hob hfz hb hfin hkp hfs hok.fr
noncomputable def qI (w:T3) (lev:Nat) (C:Ctr) (ads:List Nat):Prop:=∃m n js hs ih cs vq tl sq,RunF w C m n ads js hs ih cs vq tl sq∧(C.pre ads).length=m∧js.Nodup∧(∀j∈js,m≤j)∧AllValid prog w (ktOf w.params) lev cs∧(∀a N t0 gN,∀p∈vq a N t0 gN,p.1=p.2)∧∀a N t0 gN,∀P∈sq a N t0 gN,P
theorem qI.mk9 {w:T3} {lev:Nat} {C:Ctr} {ads:List Nat} {m n:Nat} {js hs:List Nat} {ih:List (Nat×T1)} {cs:List CH} {vq:FA→Nat→Nat→Nat→List (T1×T1)} {tl:FA→Nat→Nat→Nat→Nat→Nat} {sq:FA→Nat→Nat→Nat→List Prop} (z:RunF w C m n ads js hs ih cs vq tl sq) (h4:AllValid prog w (ktOf w.params) lev cs) (h5:∀a N t0 gN,∀p∈vq a N t0 gN,p.1=p.2) (h6:∀a N t0 gN,∀P∈sq a N t0 gN,P) (h1:(C.pre ads).length=m:=by rfl) (h2:js.Nodup:=by decide) (h3:∀j∈js,m≤j:=by decide):qI w lev C ads:=⟨m,n,js,hs,ih,cs,vq,tl,sq,z,h1,h2,h3,h4,h5,h6⟩
theorem q8 {w:T3} {lev:Nat} {C:Ctr} (m:Nat) (H:∀ads,ads.length=m→(∀p∈C.ok ads,p.1=p.2)→qI w lev C ads) (hm:∀ads,(C.pre ads).length=m:=by intros;rfl) (hc:∀ads,(C.code ads).isCaller=false:=by intros;rfl) (hkp:∀ads ν,C.kpost ads ν=[]:=by intros;rfl) (hfs:C.fside=none:=by rfl):VC w (lev+1) C:=by
 intro A ads s R h0 hd hu hkt hok hnd hoff hob hfz hb hfin
 obtain ⟨_,_,_,_,_,_,_,_,_,z,e,h1,h2,h3,h4,h5⟩:=H ads (hob.len.trans (hm ads)) hok.ok
 exact qbf z hc e h1 h2 h3 h4 h5 A s R h0 hd hu hkt hnd hoff hob hfz hb hfin hkp hfs hok.fr
theorem vb {a b:Bool} (h:a=b):Value.bool a=Value.bool b:=congrArg _ h
theorem qa {w:T3} {lev n:Nat} {f:Code→List Obj→Ctr} {js z:List Nat} {cs:List CH} (h:∀c os,Valid prog w (ktOf w.params) lev (f c os)) (hc:AllValid prog w (ktOf w.params) lev cs):AllValid prog w (ktOf w.params) lev (⟨n,some (f,js),z⟩::cs):=λg hg=>by
 rcases E2.mp hg with rfl | hg
 ·intro x hx
  cases hx
  exact h
 ·exact hc g hg
theorem qK {w:T3} {n:Nat} {z:List Nat} {lev:Nat} {cs:List CH} (hc:AllValid prog w (ktOf w.params) lev cs):AllValid prog w (ktOf w.params) lev (⟨n,none,z⟩::cs):=λg hg=>by
 rcases E2.mp hg with rfl | hg
 ·intro x hx
  cases hx
 ·exact hc g hg
theorem Valid.up {pr:T6} {w:T3} {kt:Nat→Option Obj} {lev:Nat} {C:Ctr} (h:Valid pr w kt lev C):Valid pr w kt (lev+1) C:=λA ads s R h0 hd hu=>h A ads s R h0 (by lia) (by lia)
noncomputable def Cur {α:Type}:Nat→(List α→Prop)→Prop
 | 0,P=>P []
 | n+1,P=>∀a,Cur n λl=>P (a::l)
theorem qT {α:Type}:∀{n:Nat} {P:List α→Prop},Cur n P→∀l,l.length=n→P l
 | 0,_,h,[],_=>h
 | _+1,_,h,a::l,e=>qT (h a) l (G6.inj e)
 | 0,_,_,_::_,e=>nomatch e
 | _+1,_,_,[],e=>nomatch e
theorem vcr {w:T3} {lev:Nat} {C:Ctr} (m n:Nat) (js hs:List Nat) (ih:List (Nat×T1)) (cs:List CH) (vq:FA→Nat→Nat→Nat→List (T1×T1)) (tl:FA→Nat→Nat→Nat→List Nat) (h4:AllValid prog w (ktOf w.params) lev cs) (h5:∀a N t0 gN,∀p∈vq a N t0 gN,p.1=p.2)
  (H:Cur m λads=>RunOk w C m n ads js hs ih cs vq tl:=by (repeat intro _);kernel_rfl) (h2:js.Nodup:=by decide) (h3:∀j∈js,m≤j:=by decide) (hm:∀ads,(C.pre ads).length=m:=by intros;rfl) (hc:∀ads,(C.code ads).isCaller=false:=by intros;rfl) (hkp:∀ads ν,C.kpost ads ν=[]:=by intros;rfl) (hfs:C.fside=none:=by rfl):VC w (lev+1) C :=
 qu m (λads hl _=>C2 (qT H ads hl) h4 h5 (hm ads) h2 h3) hm hc hkp hfs
theorem qbA {l:List Nat} (h:l.length=1):∃a0,l=[a0]:=qT (n:=1) (P:=λl=>∃a0,l=[a0]) (λa0=>⟨a0,rfl⟩) l h
theorem qh1 {l:List Nat} (h:l.length=3):∃a0 a1 a2,l=[a0,a1,a2]:=qT (n:=3) (P:=λl=>∃a0 a1 a2,l=[a0,a1,a2]) (λa0 a1 a2=>⟨a0,a1,a2,rfl⟩) l h
theorem wL {l:List Nat} (h:l.length=4):∃a0 a1 a2 a3,l=[a0,a1,a2,a3]:=qT (n:=4) (P:=λl=>∃a0 a1 a2 a3,l=[a0,a1,a2,a3]) (λa0 a1 a2 a3=>⟨a0,a1,a2,a3,rfl⟩) l h
theorem qlC {l:List Nat} (h:l.length=5):∃a0 a1 a2 a3 a4,l=[a0,a1,a2,a3,a4]:=qT (n:=5) (P:=λl=>∃a0 a1 a2 a3 a4,l=[a0,a1,a2,a3,a4]) (λa0 a1 a2 a3 a4=>⟨a0,a1,a2,a3,a4,rfl⟩) l h
theorem qfk {l:List Nat} (h:l.length=6):∃a0 a1 a2 a3 a4 a5,l=[a0,a1,a2,a3,a4,a5]:=qT (n:=6) (P:=λl=>∃a0 a1 a2 a3 a4 a5,l=[a0,a1,a2,a3,a4,a5]) (λa0 a1 a2 a3 a4 a5=>⟨a0,a1,a2,a3,a4,a5,rfl⟩) l h
theorem qtm {l:List Nat} (h:l.length=9):∃a0 a1 a2 a3 a4 a5 a6 a7 a8,l=[a0,a1,a2,a3,a4,a5,a6,a7,a8]:=qT (n:=9) (P:=λl=>∃a0 a1 a2 a3 a4 a5 a6 a7 a8,l=[a0,a1,a2,a3,a4,a5,a6,a7,a8]) (λa0 a1 a2 a3 a4 a5 a6 a7 a8=>⟨a0,a1,a2,a3,a4,a5,a6,a7,a8,rfl⟩) l h
theorem qss {l:List Nat} (h:l.length=10):∃a0 a1 a2 a3 a4 a5 a6 a7 a8 a9,l=[a0,a1,a2,a3,a4,a5,a6,a7,a8,a9]:=qT (n:=10) (P:=λl=>∃a0 a1 a2 a3 a4 a5 a6 a7 a8 a9,l=[a0,a1,a2,a3,a4,a5,a6,a7,a8,a9]) (λa0 a1 a2 a3 a4 a5 a6 a7 a8 a9=>⟨a0,a1,a2,a3,a4,a5,a6,a7,a8,a9,rfl⟩) l h
theorem qsr {l:List Nat} (h:l.length=12):∃a0 a1 a2 a3 a4 a5 a6 a7 a8 a9 a10 a11,l=[a0,a1,a2,a3,a4,a5,a6,a7,a8,a9,a10,a11]:=qT (n:=12) (P:=λl=>∃a0 a1 a2 a3 a4 a5 a6 a7 a8 a9 a10 a11,l=[a0,a1,a2,a3,a4,a5,a6,a7,a8,a9,a10,a11]) (λa0 a1 a2 a3 a4 a5 a6 a7 a8 a9 a10 a11=>⟨a0,a1,a2,a3,a4,a5,a6,a7,a8,a9,a10,a11,rfl⟩) l h
theorem vz {l:List Nat} (h:l.length=19):∃a0 a1 a2 a3 a4 a5 a6 a7 a8 a9 a10 a11 a12 a13 a14 a15 a16 a17 a18,l=[a0,a1,a2,a3,a4,a5,a6,a7,a8,a9,a10,a11,a12,a13,a14,a15,a16,a17,a18]:=qT (n:=19) (P:=λl=>∃a0 a1 a2 a3 a4 a5 a6 a7 a8 a9 a10 a11 a12 a13 a14 a15 a16 a17 a18,l=[a0,a1,a2,a3,a4,a5,a6,a7,a8,a9,a10,a11,a12,a13,a14,a15,a16,a17,a18]) (λa0 a1 a2 a3 a4 a5 a6 a7 a8 a9 a10 a11 a12 a13 a14 a15 a16 a17 a18=>⟨a0,a1,a2,a3,a4,a5,a6,a7,a8,a9,a10,a11,a12,a13,a14,a15,a16,a17,a18,rfl⟩) l h
noncomputable def oS (k:Nat):U2:=⟨⟨F2 k 111⟩⟩
noncomputable def keyOf (bs:List Nat) (is:List I3):Key:=bs.zip (is.map λi=>itO (oI i))
noncomputable def qfC (p:T4) (r:RT) (ln:Nat) (tk:U1) (h:Int) (th:U1) (cd n:Nat) (bs:List Nat) (is:List I3) (t u:U1):Ctr where
 code ads := .call (.ref 145) ⟨[.ref (adF ads 0 0), .str sE t, .str sO u],[]⟩
 ok ads:=[(adF ads 0 4,194)]
 pre ads:=yH p r ln tk h th cd n (bs.map .ref) [] ads
 res ads ν := .done (.ok (.ret .none))
 post ads ν:=yH p r ln tk h th cd (n+1) (bs.map .ref++[.ref (ν 3)]) [] ads
 news ads ν:=[vB 0 sE t sO u]
 frz:=[keyOf bs is]
noncomputable def qrX (p:T4) (r:RT) (ln:Nat) (tk:U1) (h:Int) (th:U1) (cd n:Nat) (tb:Obj) (f:Nat→Nat) (bs:List Nat) (is:List I3) (t u:U1):Ctr where
 code ads := .call (.ref 145) ⟨[.ref (adF ads 0 0), .str sSp t, .str sX u],[]⟩
 ok ads:=[(adF ads 0 5,194),(adF ads 0 6,201)]
 pre ads:=zh p r [] ln tk h th cd n tb (bs.map .ref) [] ads
 res ads ν := .done (.ok (.ret .none))
 post ads ν:=zh p r [.str (oS is.length) (ν 4)] (ν 5) tk 0 (ν 6) cd (ν 7) (qn (f (ν 8))) [.ref (ν 3)] [] ads
 news ads ν:=[vB 0 sSp t sX u]
 frz:=[keyOf bs is]
noncomputable def qbU (h:Int) (k:Nat) (t:U1):List T1:=if h=0∧k=0 then [] else [.str (oS k) t]
noncomputable def qml (p:T4) (r:RT) (ln:Nat) (tk:U1) (h:Int) (th:U1) (cd n c:Nat) (bs:List Nat) (is:List I3) (u:U1):Ctr where
 code ads := .call (.ref 96) ⟨[.ref (adF ads 0 0), .str sSl u],[]⟩
 ok ads:=[(adF ads 0 5,194),(adF ads 0 6,201)]
 pre ads:=zh p r [] ln tk h th cd n (qn c) (bs.map .ref) [] ads
 res ads ν := .done (.ok (.ret (.str (oS is.length) (ν 3))))
 post ads ν:=zh p r (qbU h is.length (ν 8)) (ν 4) tk 0 (ν 5) cd (ν 6) (qn c) [] [] ads
 news ads ν:=[]
 frz:=[keyOf bs is]
noncomputable def rstrB (p:T4) (r:RT) (k:Nat) (tl:U1) (ln:Nat) (tk th:U1) (cd n c:Nat) (i:I3) (u:U1):Ctr :=
 wN p r [.str (oS k) tl] ln tk 0 th cd n (qn c) (λ_=>qn c) [xI i] (λν=>[.str (oS k) tl, .str ⟨⟨[32,120]⟩⟩ (ν 7)]) (F2 k 111++[47,32,120]) u
noncomputable def qk4 (hh:Int) (tk:U1) (h:Int) (th:U1) (n cd:Nat) (bs:List Nat) (is:List I3):Ctr where
 code ads := .call (.ref 199) ⟨[.ref (adF ads 0 0)],[]⟩
 ok ads:=[(adF ads 0 2,194)]
 pre ads:=[jN (adF ads 0 1) (bs.map .ref) n,j5 hh tk h th,zU cd]
 res ads ν := .done (.ok (.ret (.int (h+is.length) (ν 3))))
 post ads ν:=[jN (adF ads 0 1) (bs.map .ref) n,j5 hh tk h th,zU cd]
 news ads ν:=[]
 frz:=[keyOf bs is]
noncomputable def qeT (hh:Int) (tk:U1) (h:Int) (th:U1) (n cd:Nat) (bs:List Nat) (is:List I3) (i:I3):Ctr where
 code ads := .call (.ref 199) ⟨[.ref (adF ads 0 0)],[]⟩
 ok ads:=[(adF ads 0 2,194)]
 pre ads:=[jN (adF ads 0 1) (bs.map .ref++[.ref (adF ads 0 3)]) n,j5 hh tk h th,zU cd,itO (oI i)]
 res ads ν := .done (.ok (.ret (.int (h+((is.length+1:Nat):Int)) (ν 3))))
 post ads ν:=[jN (adF ads 0 1) (bs.map .ref++[.ref (adF ads 0 3)]) n,j5 hh tk h th,zU cd,itO (oI i)]
 news ads ν:=[]
 frz:=[keyOf bs is]
noncomputable def qfA (c:Code):T1:=match c with
 | .builtin _ a=>match a.pos with
  | _::x::_=>x
  | _ => .none
 | _ => .none
noncomputable def qGe (a b:Int) (r:Bool):T1×T1:=(.bool (decide (a≥b)), .bool r)
noncomputable def qLt (a b:Int) (r:Bool):T1×T1:=(.bool (decide (a<b)), .bool r)
noncomputable def qEq (a b:Int) (r:Bool):T1×T1:=(.bool (a==b), .bool r)
noncomputable def qS (k:Nat):T1×T1:=(.bool ((k:Int)==(k:Int)), .bool true)
noncomputable def qsD (c:Code):List T1:=match c with
 | .builtin _ a=>a.pos
 | .call _ a=>a.pos
 | _=>[]
noncomputable def uE (c:Code) (i:Nat):T1:=match lGet (qsD c) i with
 | some v=>v
 | none => .none
noncomputable def qe (c:Code) (i:Nat):U1:=jR (uE c i)
noncomputable def yK (vs:List T1) (n:Nat) (x:T1):Ctr where
 code ads := .builtin "list.append" ⟨[.ref (adF ads 0 0),x],[]⟩
 ok ads:=[]
 pre ads:=[qd vs n]
 res ads ν := .done (.ok (.ret .none))
 post ads ν:=[qd (vs++[x]) (n+1)]
 news ads ν:=[]
 frz:=[]
section
variable {w:T3}
theorem qfp:entryFor table "list.append"=some Builtin.«list.append»:=PySem.F.entry_list_append
theorem qkT {vs:List T1} {n:Nat} {x:T1}:(qd vs n).mapSeq (λ(xs:Array T1)=>xs.push x)=qd (vs++[x]) (n+1):=by
 have e:(((⟨vs⟩:Array T1).push x).size==(⟨vs⟩:Array T1).size)=false:=by
  rw [K4]
  exact beq_false_of_ne (by lia)
 show Obj.mk _ _ (.seq ((⟨vs⟩:Array T1).push x) (if (((⟨vs⟩:Array T1).push x).size==(⟨vs⟩:Array T1).size)=true then n else n+1)) _=_
 rw [e]
 have q:(⟨vs⟩:Array T1).push x=⟨vs++[x]⟩:=by simp
 rw [q]
 rfl
theorem qfN {C:Ctr} {a:Nat} {s:T2} {o:Obj} {f:Obj→Obj} (ho:s.heap.get? a=some o) (hf:(f o).isFreed=false) (hb:∀x∈s.gens,x.bare=true) :
  ∀ν,ν=nu s.heap.objs.size s.toks s.gens.size []→C.post [a] ν=[f o]→C.news [a] ν=[]→C.kpost [a] ν=[]→Post C [a] ν s {s with heap:=s.heap.update a f}:=by
 rintro ν rfl ep en ek
 have sz:(s.heap.update a f).objs.size=s.heap.objs.size:=(N1.update s.heap a f).1
 refine ⟨?_,?_,?_,?_,λb o' e hb => ?_,F4 _,sz,rfl,rfl,F4 _,λ_ _=>rfl,hb,rfl,rfl,λk hk => ?_⟩
 ·rw [ep]
  exact ⟨G2 _ ho hf,trivial⟩
 ·rw [en];trivial
 ·rw [en];exact F8
 ·rw [en];intro a h;cases h
 ·exact ((N1.update s.heap a f).2 b (λh=>hb (h▸ .head _))).trans e
 ·rw [ek] at hk;cases hk
theorem zv {vs:List T1} {n:Nat} {x:T1} {lev:Nat} (hs:vs.length≤16777215):VC w lev (yK vs n x):=by
 intro A ads s R h0 hd hu hkt hok hnd hoff hob hfz hbare hfin
 obtain ⟨a,rfl⟩:∃a,ads=[a]:=by
  match ads,hob with
  | [a],_=>exact ⟨a,rfl⟩
 have ho:s.heap.get? a=some (qd vs n):=hob.1
 refine y_code _ _ _ _ _ _ ?_
 show wpOwn (model prog w) A _ (denote table (.builtin "list.append" ⟨[.ref a,x],[]⟩)) _ _ s
 rw [uB qfp]
 refine wpOwn_of_wpAny ?_
 show wpAny _ _ (updateSeq a (λxs=>xs.push x) >>= λ_=>ret .none) _ _ s
 refine T9 (wpAny_updateSeq ho rfl (wpAny_pure ?_))
 exact hfin _ _ (qfN ho rfl hbare _ rfl (by rw [qkT];rfl) rfl rfl)
noncomputable def zW (id:String) (args:Args) (rv:Nat→T1):Ctr where
 code _ := .builtin id args
 ok _:=[]
 pre _:=[]
 res _ ν := .done (.ok (.ret (rv (ν 3))))
 post _ _:=[]
 news _ _:=[]
 frz:=[]
theorem zO {id:String} {args:Args} {rv:Nat→T1} {B:Builtin} {m:Made} {lev:Nat} (plain:plainId id=true) (entry:entryFor table id=some B) (g:Gives (B args) m)
  (hm:∀(s:T2) (Q:T1→T2→Prop),(∀u k,Q (rv u) {s with toks:=k})→m.post Q s):VC w lev (zW id args rv):=by
 intro A ads s R h0 hd hu hkt hok hnd hoff hob hfz hbare hfin
 obtain rfl:ads=[]:=by
  match ads,hob with
  | [],_=>rfl
 refine codeAny_builtin entry ?_
 rw [G4 plain args]
 refine g prog w A R s (hm s _ λu k => ?_)
 exact hfin (nu s.heap.objs.size k s.gens.size [u]) _ ⟨trivial,trivial,F8,(λa h=>nomatch h),λb o e _=>e,F4 _,rfl,rfl,rfl,F4 _,λ_ _=>rfl,hbare,rfl,rfl,λk hk=>nomatch hk⟩
end
section
noncomputable def zy:U2:=⟨#[46]⟩
noncomputable def qbG:U2:=⟨#[108,111,99,97,108]⟩
noncomputable def zH (h r:U2) (t:U1):Ctr where
 code ads := .call (.ref 57) ⟨[.str h t],[]⟩
 ok ads:=[]
 pre ads:=[]
 res ads ν := .done (.ok (.ret (.str r (ν 3))))
 post ads ν:=[]
 news ads ν:=[]
 frz:=[]
noncomputable abbrev rC (n:Nat) (a b:U2):CH:=cX n (λc _=>zH a b (qe c 0)) []
variable {w:T3}
noncomputable def qqS:Array Nat := #[14,8,1,2,4294967295,1,1,46,0,16,46,24,9,1,4294967295,13,4,8,0,0,1,6,5,1]
noncomputable def qkZ (h:U2):Bool:=ipF qqS h.cps 0 (min (0:Int).toNat h.cps.size) (min (2 ^ 63-1:Int).toNat h.cps.size)
noncomputable def vc (h:U2) (k:Int):Bool:=(qav h k).isSome
noncomputable def yk (h:U2) (k:Int):Bool:=[(qav h k).getD 0]==[46]
noncomputable def qaf (i:Int):Option Int×Option Int×Int:=(some (i+1),none,1)
structure qmH (h b:U2) (i:Int):Prop where
 i0:0≤i
 whole:qG h (qaf i)=false
 be:q9 h (qaf i)=b
 sz:b.length≤1000
 ip:qkZ h=true
 ne:(h.cps.toList==[])=false
 c0:vc h 0=true
 d0:yk h 0=false
 c1:vc h (-1)=true
 d1:yk h (-1)=false
noncomputable def dotVq (h b:U2) (i:Int):List (T1×T1):=[(.bool (yk h (-1)), .bool false),(.bool (vc h (-1)), .bool true),(.bool (yk h 0), .bool false),(.bool (vc h 0), .bool true),(.bool (h.cps.toList==[]), .bool false),(.bool (qkZ h), .bool true),(.bool (decide (b.length>sizeLine)), .bool false),(.str (q9 h (qaf i)) 0, .str b 0),(.bool (qG h (qaf i)), .bool false),qGe i 0 true]
noncomputable def ux (h:U2) (i:Int) (c:Code):Ctr:=zW "str.find" ⟨[.str h (qe c 0), .str zy (qe c 1)],[]⟩ λv => .int i v
noncomputable def qrH (b:U2) (c:Code):Ctr:=zW "str.__add__" ⟨[.str zy (qe c 0), .str b (qe c 1)],[]⟩ λv => .str (zy++b) v
theorem qm8 (h:U2) (t:U1):RunOk w (zH h h t) 0 60 [] [] [0,0,1,1,0,1,1,1,1,1] [] [(cC 2 (ux h (-1)) [])] (λ_ _ _ _=>[]) (λ_ _ _ _=>[t]):=λN t0 gN a x y z=>by
 kernel_rfl
theorem qm7 (h b:U2) (i j:Int) (t:U1):RunOk w (zH h (zy++b) t) 0 220 [] [] (hx 0x10200100110060ce03d001121f10f02d2f11001d000d) [oT,oF,(0, .str b 0),oF,oT,(1, .bool false),(1, .bool true),(2, .bool false),(1, .bool true),(2, .bool false),(1, .bool true)] [(cC 2 (ux h i) []),(cC 5 (ux b j) []),(cC 11 (qrH b) [])] (λ_ _ _ _=>qGe j 0 true::dotVq h b i) (λa _ _ _=>[a.c 2 3]):=λN t0 gN a x y z=>by
 kernel_rfl
theorem qm6 (h b:U2) (i j:Int) (t:U1):RunOk w (zH h (zy++b) t) 0 220 [] [] (hx 0x100200100110060ce03d001121f10f02d2f11001d000d) [oT,oF,(0, .str b 0),oF,oT,(1, .bool false),(1, .bool true),(2, .bool false),(1, .bool true),(2, .bool false),(1, .bool false),oT] [(cC 2 (ux h i) []),(cC 5 (ux b j) []),(cC 11 (qrH b) [])] (λ_ _ _ _=>(.bool (b.cps.toList==qbG.cps.toList), .bool true)::qGe j 0 false::dotVq h b i) (λa _ _ _=>[a.c 2 3]):=λN t0 gN a x y z=>by
 kernel_rfl
theorem qm5 (h b:U2) (i j:Int) (t:U1):RunOk w (zH h h t) 0 220 [] [] (hx 0x100200100110060ce03d001121f10f02d2f11001d000d) [oT,oF,(0, .str b 0),oF,oT,(1, .bool false),(1, .bool true),(2, .bool false),(1, .bool true),(2, .bool false),(1, .bool false),oF] [(cC 2 (ux h i) []),(cC 5 (ux b j) [])] (λ_ _ _ _=>(.bool (b.cps.toList==qbG.cps.toList), .bool false)::qGe j 0 false::dotVq h b i) (λ_ _ _ _=>[t]):=λN t0 gN a x y z=>by
 kernel_rfl
theorem qhg:plainId "str.find"=true:=by decide +kernel
theorem qjp:plainId "str.__add__"=true:=by decide +kernel
theorem jW {lev:Nat} {x y:U2} {t u:U1} {i:Int} (h:jm x y=i):VC w lev (zW "str.find" ⟨[.str x t, .str y u],[]⟩ λv => .int i v) :=
 zO qhg PySem.F.entry_str_find (gives_str_find x y t u) λs Q q=>by subst h;exact q s.toks (s.toks+1)
theorem qf6 {x:U2} (h:(x.length==0)=true):x=⟨#[]⟩:=by
 obtain ⟨⟨l⟩⟩:=x
 cases l with
 | nil=>rfl
 | cons a l=>cases h
theorem qq {lev:Nat} {x y:U2} {t u:U1} (h:(x++y).length≤sizeLine):VC w lev (zW "str.__add__" ⟨[.str x t, .str y u],[]⟩ λv => .str (x++y) v) :=
 zO qjp PySem.F.entry_str_add (gives_str_add x y t u) λs Q q=>by
  cases h1:(x.length==0) with
  | true =>
   have e:=qf6 h1
   subst e
   have z:=q u s.toks
   rw [show (⟨#[]⟩:U2)++y=y from by obtain ⟨⟨l⟩⟩:=y;show Str.mk (#[]++_)=_;simp] at z
   exact z
  | false =>
   cases h2:(y.length==0) with
   | true =>
    have e:=qf6 h2
    subst e
    have z:=q t s.toks
    rw [show x++(⟨#[]⟩:U2)=x from by obtain ⟨⟨l⟩⟩:=x;show Str.mk (_ ++ #[])=_;simp] at z
    exact z
   | false=>exact ⟨h,q s.toks (s.toks+1)⟩
noncomputable def qib (h:U2):Bool:=decide (0≤jm h zy)&&(!qG h (qaf (jm h zy))&&(decide ((q9 h (qaf (jm h zy))).length≤1000)&&(qkZ h&&(!(h.cps.toList==[])&&(vc h 0&&(!yk h 0&&(vc h (-1) && !yk h (-1))))))))
theorem qlJ {h:U2} (e:qib h=true):qmH h (q9 h (qaf (jm h zy))) (jm h zy):=by
 simp only [qib,J8,decide_eq_true_eq,L7] at e
 obtain ⟨h1,h2,h3,h4,h5,h6,h7,h8,h9⟩:=e
 exact ⟨h1,h2,rfl,h3,h4,h5,h6,h7,h8,h9⟩
noncomputable def jx (h:U2):U2:=q9 h (qaf (jm h zy))
noncomputable def reachF (h:U2):U2:=match jm h zy == -1 with
 | true=>h
 | false=>match decide (0≤jm (jx h) zy) with
  | true=>zy++jx h
  | false=>match (jx h).cps.toList==qbG.cps.toList with
   | true=>zy++jx h
   | false=>h
noncomputable def wj (h:U2):Bool:=match jm h zy == -1 with
 | true=>true
 | false=>qib h
theorem qbC {h b:U2} {i:Int} (D:qmH h b i):∀p∈dotVq h b i,p.1=p.2:=by
 intro p hp
 simp only [dotVq,E2,F5,or_false] at hp
 have hs:=D.sz
 rcases hp with rfl | rfl | rfl | rfl | rfl | rfl | rfl | rfl | rfl | rfl
 ·exact vb D.d1
 ·exact vb D.c1
 ·exact vb D.d0
 ·exact vb D.c0
 ·exact vb D.ne
 ·exact vb D.ip
 ·exact vb (decide_eq_false (by unfold sizeLine;lia))
 ·show Value.str _ 0=Value.str _ 0
  rw [D.be]
 ·exact vb D.whole
 ·exact vb (decide_eq_true D.i0)
theorem qa3 (x y:U2):(x++y).length=x.length+y.length:=by
 show (x.cps++y.cps).size=_
 rw [R6];rfl
theorem qv {h:U2} {t:U1} (ok:wj h=true):VC w 1 (zH h (reachF h) t):=by
 refine qu 0 λads hl hok => ?_
 obtain rfl:=E5 hl
 unfold wj at ok
 unfold reachF
 split at ok
 ·rename_i e
  exact (C2 (qm8 h t) (qa (λ_ _=>jW (eq_of_beq e)) B0) (λ_ _ _ _ _ h=>nomatch h))
 ·rename_i e
  have D:=qlJ ok
  have sz:(zy++jx h).length≤sizeLine:=by
   rw [qa3]
   have:=D.sz
   have:zy.length=1:=rfl
   unfold jx sizeLine
   lia
  cases e2:decide (0≤jm (jx h) zy) with
  | true =>
   refine (C2 (qm7 h (jx h) (jm h zy) (jm (jx h) zy) t) (qa (λ_ _=>jW rfl) (qa (λ_ _=>jW rfl) (qa (λ_ _=>qq sz) B0))) (λ_ _ _ _ p hp => ?_))
   rcases E2.mp hp with rfl | hp
   ·exact vb e2
   ·exact qbC D p hp
  | false =>
   cases e3:(jx h).cps.toList==qbG.cps.toList with
   | true =>
    refine (C2 (qm6 h (jx h) (jm h zy) (jm (jx h) zy) t) (qa (λ_ _=>jW rfl) (qa (λ_ _=>jW rfl) (qa (λ_ _=>qq sz) B0))) (λ_ _ _ _ p hp => ?_))
    rcases E2.mp hp with rfl | hp
    ·exact vb e3
    rcases E2.mp hp with rfl | hp
    ·exact vb e2
    ·exact qbC D p hp
   | false =>
    refine (C2 (qm5 h (jx h) (jm h zy) (jm (jx h) zy) t) (qa (λ_ _=>jW rfl) (qa (λ_ _=>jW rfl) B0)) (λ_ _ _ _ p hp => ?_))
    rcases E2.mp hp with rfl | hp
    ·exact vb e3
    rcases E2.mp hp with rfl | hp
    ·exact vb e2
    ·exact qbC D p hp
end
section
noncomputable def w3 (fd:T5) (i:Nat):Stmt:=match fd.body with
 | .stmts l=>match lGet l i with
  | some s=>s
  | none => .Pass ⟨0,0,0,0⟩
 | _ => .Pass ⟨0,0,0,0⟩
noncomputable def qs2 (s:Stmt):Expr:=match s with
 | .Return v _=>match v with
  | some e=>e
  | none => .Name ⟨#[]⟩ ⟨0,0,0,0⟩
 | _ => .Name ⟨#[]⟩ ⟨0,0,0,0⟩
noncomputable def qsV (e:Expr):Expr:=match e with
 | .Subscript v _ _=>v
 | e=>e
noncomputable def qd6 (e:Expr):Scope:=match e with
 | .ListComp _ _ sc _=>sc
 | _=>default
noncomputable def qdP (o:Option Obj):T5:=match o with
 | some o=>match o.data with
  | .func fd=>fd
  | _=>default
 | none=>default
noncomputable def qr1:U2:=⟨#[110,97,109,101]⟩
noncomputable def sK:U2:=⟨#[107]⟩
noncomputable def qr4:U2:=⟨#[95,108,97,119,95,101,110,100,115,46,60,108,111,99,97,108,115,62,46]⟩
noncomputable def qlc (sc:Scope):Scope:={sc with names:=sc.names.map λp=>(p.1,match p.2 with
 | .free => .cell
 | k=>k)}
noncomputable def qmA (fd:T5):Expr:=qsV (qs2 (w3 fd 0))
noncomputable def qn5 (fd:T5) (F C D:Nat):Env:={scope:=qlc (qd6 (qmA fd)),locals:=D,globals:=3,cells:=[(qr1,C)],qual:=qr4,func:=none,code := .ref 259,frame:=some F,builtins:=0}
noncomputable def jG (fd:T5) (F C D it acc:Nat):Code := .compLoop (qmA fd) 0 (.ref it) (.ref acc) (qn5 fd F C D)
noncomputable def zx (v left:Int):Obj:=⟨.type "range_iterator",none, .fields #[.int v 0, .int left 0, .int 1 0],#[]⟩
noncomputable def yM (n:Nat):Obj:=⟨.type "dict",none, .dict #[] n,#[]⟩
noncomputable def dict1 (p:T4) (s:U2) (t:U1) (v:T1) (n:Nat):Obj:=⟨.type "dict",none, .dict #[⟨reduceHash (p.strHash s.cps), .str s t,v⟩] n,#[]⟩
noncomputable def zl (v:T1):Obj:=⟨.type "cell",none, .cell (some v),#[]⟩
noncomputable def qj5 (p:T4) (fd:T5) (F:Nat) (name:U2) (tn:U1) (dv:Nat) (m:Nat) (lv:Nat):Ctr where
 code ads:=jG fd F (adF ads 0 1) (adF ads 0 0) (adF ads 0 2) (adF ads 0 3)
 ok ads:=[]
 pre ads:=[yM dv,zl (.str name tn),zx 0 (E3 (G6 m)),qd [] lv]
 res ads ν := .go (jG fd F (adF ads 0 1) (adF ads 0 0) (adF ads 0 2) (adF ads 0 3))
 post ads ν:=[dict1 p sK (ν 3) (.int 0 (ν 4)) (dv+1),zl (.str name tn),zx 1 (E3 (G6 m)-1),qd [.str name tn] (lv+1)]
 news ads ν:=[]
 frz:=[]
noncomputable def qj4 (p:T4) (fd:T5) (F:Nat) (name suf:U2) (tn kt:U1) (j:Int) (jt:U1) (dv:Nat) (k:Int) (m:Nat) (vs:List T1) (lv:Nat):Ctr where
 code ads:=jG fd F (adF ads 0 1) (adF ads 0 0) (adF ads 0 2) (adF ads 0 3)
 ok ads:=[]
 pre ads:=[dict1 p sK kt (.int j jt) dv,zl (.str name tn),zx k (E3 (G6 m)),qd vs lv]
 res ads ν := .go (jG fd F (adF ads 0 1) (adF ads 0 0) (adF ads 0 2) (adF ads 0 3))
 post ads ν:=[dict1 p sK kt (.int k (ν 4)) dv,zl (.str name tn),zx (k+1) (E3 (G6 m)-1),qd (vs++[.str suf (ν 3)]) (lv+1)]
 news ads ν:=[]
 frz:=[]
noncomputable def qj3 (p:T4) (fd:T5) (F:Nat) (name:U2) (tn kt:U1) (j:Int) (jt:U1) (dv:Nat) (k:Int) (m:Nat) (vs:List T1) (lv:Nat):Ctr where
 code ads:=jG fd F (adF ads 0 1) (adF ads 0 0) (adF ads 0 2) (adF ads 0 3)
 ok ads:=[]
 pre ads:=[dict1 p sK kt (.int j jt) dv,zl (.str name tn),zx k (E3 (G6 m)),qd vs lv]
 res ads ν := .go (jG fd F (adF ads 0 1) (adF ads 0 0) (adF ads 0 2) (adF ads 0 3))
 post ads ν:=[dict1 p sK kt (.int k (ν 4)) dv,zl (.str name tn),zx (k+1) (E3 (G6 m)-1),qd vs lv]
 news ads ν:=[]
 frz:=[]
noncomputable def qj2 (p:T4) (fd:T5) (F:Nat) (name:U2) (tn kt:U1) (j:Int) (jt:U1) (dv:Nat) (k:Int) (vs:List T1) (lv:Nat):Ctr where
 code ads:=jG fd F (adF ads 0 1) (adF ads 0 0) (adF ads 0 2) (adF ads 0 3)
 ok ads:=[]
 pre ads:=[dict1 p sK kt (.int j jt) dv,zl (.str name tn),zx k (E3 0),qd vs lv]
 res ads ν := .done (.ok .next)
 post ads ν:=[dict1 p sK kt (.int j jt) dv,zl (.str name tn),zx k (E3 0),qd vs lv]
 news ads ν:=[]
 frz:=[]
variable {w:T3}
noncomputable def fdE (p:T4):T5:=qdP (ktOf p 260)
noncomputable def kPs (k:Int):PsT:=(some k,none,1)
theorem qos (F:Nat) (name:U2) (tn:U1) (dv m lv:Nat) (a0 a1 a2 a3:Nat):RunOk w (qj5 w.params (fdE w.params) F name tn dv m lv) 4 60 [a0,a1,a2,a3] [] (hx 0x104d0f05d102d0001d5f03d) [(1, .bool true)] [(cX 5 (λc _=>yK [] lv (qfA c)) [3]),⟨0,none,[]⟩] (λ_ _ _ _=>[(.bool (qG name (kPs 0)), .bool true)]) (λa N t0 gN=>[t0+1,t0]):=λN t0 gN a x y z=>by
 kernel_rfl
theorem qoq (F:Nat) (name suf:U2) (tn kt:U1) (j:Int) (jt:U1) (dv:Nat) (k:Int) (m:Nat) (vs:List T1) (lv:Nat) (a0 a1 a2 a3:Nat):RunOk w (qj4 w.params (fdE w.params) F name suf tn kt j jt dv k m vs lv) 4 80 [a0,a1,a2,a3] [] (hx 0x104d0f05d11102d0001d5f03d) [oF,(1, .bool false),oT,(2, .bool true),oF,(0, .str suf 0),oF] [(cX 7 (λc _=>yK vs lv (qfA c)) [3]),⟨0,none,[]⟩] (λ_ _ _ _=>[(.bool (decide (suf.length>sizeLine)), .bool false),(.str (q9 name (kPs k)) 0, .str suf 0),(.bool (qG name (kPs k)), .bool false),(.bool (yk name (k-1)), .bool true),(.bool (vc name (k-1)), .bool true),(.bool (decide (k-1 < -(2 ^ 63:Int))||decide (k-1≥2 ^ 63)), .bool false),(.bool (k==0), .bool false)]) (λa N t0 gN=>[t0+7,t0]):=λN t0 gN a x y z=>by
 kernel_rfl
theorem qoo (F:Nat) (name:U2) (tn kt:U1) (j:Int) (jt:U1) (dv:Nat) (k:Int) (m:Nat) (vs:List T1) (lv:Nat) (a0 a1 a2 a3:Nat):RunOk w (qj3 w.params (fdE w.params) F name tn kt j jt dv k m vs lv) 4 60 [a0,a1,a2,a3] [] [3,3,3,3,3,3,3,3,3,1,1,1,2,1] [oF,(1, .bool false),oT,(2, .bool false)] [⟨4,none,[]⟩] (λ_ _ _ _=>[(.bool (yk name (k-1)), .bool false),(.bool (vc name (k-1)), .bool true),(.bool (decide (k-1 < -(2 ^ 63:Int))||decide (k-1≥2 ^ 63)), .bool false),(.bool (k==0), .bool false)]) (λa N t0 gN=>[0,t0]):=λN t0 gN a x y z=>by
 kernel_rfl
theorem qom (F:Nat) (name:U2) (tn kt:U1) (j:Int) (jt:U1) (dv:Nat) (k:Int) (vs:List T1) (lv:Nat) (a0 a1 a2 a3:Nat):RunOk w (qj2 w.params (fdE w.params) F name tn kt j jt dv k vs lv) 4 30 [a0,a1,a2,a3] [] [3,3,3,3,3,6] [] [] (λ_ _ _ _=>[]) (λa N t0 gN=>[]):=λN t0 gN a x y z=>by
 kernel_rfl
structure zp (s s':T2) (ads:List Nat):Prop where
 keep:∀b o,s.heap.get? b=some o→b∉ads→s'.heap.get? b=some o
 le0:s.heap.objs.size≤s'.heap.objs.size
 le2:s.gens.size≤s'.gens.size
 gk:∀i,i<s.gens.size→s'.gens[i]? = s.gens[i]?
 bare:∀x∈s'.gens,x.bare=true
 dr:s'.drawn=s.drawn
 os:s'.os=s.os
theorem Post.kept {C:Ctr} {ads:List Nat} {ν:Nat→Nat} {s s':T2} (P:Post C ads ν s s'):zp s s' ads :=
 ⟨P.keep,by rw [P.sz];exact P.le0,by rw [P.gs];exact P.le2,P.gk,P.bare,P.dr,P.os⟩
theorem zp.trans {s s1 s2:T2} {ads ads1:List Nat} (h:zp s s1 ads) (h1:zp s1 s2 ads1) (hs:∀a∈ads1,a∈ads∨s.heap.objs.size≤a):zp s s2 ads where
 keep b o e hb:=h1.keep b o (h.keep b o e hb) λhm=>by
  have hl:b<s.heap.objs.size:=I0 e
  rcases hs b hm with q | q
  ·exact hb q
  ·exact absurd hl (L9.mpr q)
 le0:=E7 h.le0 h1.le0
 le2:=E7 h.le2 h1.le2
 gk i hi:=(h1.gk i (R1 hi h.le2)).trans (h.gk i hi)
 bare:=h1.bare
 dr:=h1.dr.trans h.dr
 os:=h1.os.trans h.os
theorem zp.refl {s:T2} {ads:List Nat} (hb:∀x∈s.gens,x.bare=true):zp s s ads:=⟨λ_ _ e _=>e,F4 _,F4 _,λ_ _=>rfl,hb,rfl,rfl⟩
theorem ur {kt:Nat→Option Obj} {ads ads':List Nat} {h h':Heap} {k:Key} (K:KeyOk kt ads h k) (kp:∀b o,h.get? b=some o→b∉ads→h'.get? b=some o) (hs:∀a∈ads',a∈ads∨h.objs.size≤a):KeyOk kt ads' h' k :=
 ⟨K.1,λp hp=>by
  obtain ⟨h1,h2,h3⟩:=K.2 p hp
  refine ⟨kp _ _ h1 h2,λhm => ?_,h3⟩
  have hl:p.1<h.objs.size:=I0 h1
  rcases hs _ hm with q | q
  ·exact h2 q
  ·exact absurd hl (L9.mpr q)⟩
theorem qjM {s:T2} {a:Nat} (hkt:∀a o,ktOf w.params a=some o→s.heap.get? a=some o) (h:s.heap.objs.size≤a):ktOf w.params a=none:=by
 cases e:ktOf w.params a with
 | none=>rfl
 | some o=>exact absurd (I0 (hkt _ _ e)) (L9.mpr h)
theorem qgf {s:T2} {ads:List Nat} {os:List Obj} {a:Nat} (hob:Objs s.heap ads os) (h:s.heap.objs.size≤a):a∉ads:=λhm=>by
 obtain ⟨o,ho⟩:=hob.mem hm
 exact absurd (I0 ho) (L9.mpr h)
structure zk (w:T3) (A:Around) (ads:List Nat) (s:T2):Prop where
 h0:A.handled=none
 hd:A.depth+130*1<U0
 hu:A.units+260*1<cLine
 hkt:∀a o,ktOf w.params a=some o→s.heap.get? a=some o
 nd:ads.Nodup
 off:∀a∈ads,ktOf w.params a=none
 bare:∀x∈s.gens,x.bare=true
theorem zk.next {A:Around} {ads:List Nat} {s s1:T2} (G:zk w A ads s) (K:zp s s1 ads):zk w A ads s1 :=
 ⟨G.h0,G.hd,G.hu,λb o eb=>K.keep b o (G.hkt b o eb) λhm=>absurd ((G.off b hm).symm.trans eb) (λh=>nomatch h),G.nd,G.off,K.bare⟩
theorem ym {α:Type} {f:Nat→α} {L:List α} {n:Nat} (h:L.length=n) (hf:∀i (hi:i<L.length),f i=L[i]):(G8 n).map f=L:=by
 subst h
 refine List.ext_getElem (by simp) λi h1 h2 => ?_
 rw [List.getElem_map,List.getElem_range]
 exact hf i h2
noncomputable def strsT:List U2→List U1→List T1
 | [],_=>[]
 | s::ss,ts=>match ts with
  | []=>[]
  | t::ts => .str s t::strsT ss ts
noncomputable def zr (name:U2):Nat→Nat→List U2
 | _,0=>[]
 | k,m+1=>match yk name (E3 k-1) with
  | true=>q9 name (kPs (E3 k))::zr name (k+1) m
  | false=>zr name (k+1) m
noncomputable def vg (name:U2):Nat→Nat→Bool
 | _,0=>true
 | k,m+1=>vc name (E3 k-1)&&(!qG name (kPs (E3 k))&&(decide ((q9 name (kPs (E3 k))).length≤1000)&&vg name (k+1) m))
theorem qbb (m:Nat):E3 (G6 m)-1=E3 m:=by simp
theorem qop (F:Nat) (name suf:U2) (tn kt:U1) (j:Int) (jt:U1) (dv:Nat) (k:Nat) (m:Nat) (vs:List T1) (lv:Nat) (hk:0<k) (hk2:k≤1000) (hv:vs.length≤16777215) (h1:vc name (E3 k-1)=true) (h2:yk name (E3 k-1)=true) (h3:qG name (kPs (E3 k))=false) (h4:q9 name (kPs (E3 k))=suf) (h5:suf.length≤1000):VC w 1 (qj4 w.params (fdE w.params) F name suf tn kt j jt dv (E3 k) m vs lv):=by
 refine qu 4 λads hl hok => ?_
 obtain ⟨a0,a1,a2,a3,rfl⟩:=wL hl
 refine (C2 (qoq F name suf tn kt j jt dv (E3 k) m vs lv a0 a1 a2 a3) (qa (λ_ _=>zv hv) (qK B0)) (λ_ _ _ _ p hp => ?_))
 simp only [E2,F5,or_false] at hp
 rcases hp with rfl | rfl | rfl | rfl | rfl | rfl | rfl
 ·exact vb (decide_eq_false (by unfold sizeLine;lia))
 ·show Value.str _ 0=Value.str _ 0
  rw [h4]
 ·exact vb h3
 ·exact vb h2
 ·exact vb h1
 ·exact vb (by rw [decide_eq_false (by simp only [E6];lia),decide_eq_false (by simp only [E6];lia)];rfl)
 ·exact vb (beq_false_of_ne (by simp only [E6];lia))
theorem qon (F:Nat) (name:U2) (tn kt:U1) (j:Int) (jt:U1) (dv:Nat) (k:Nat) (m:Nat) (vs:List T1) (lv:Nat) (hk:0<k) (hk2:k≤1000) (h1:vc name (E3 k-1)=true) (h2:yk name (E3 k-1)=false):VC w 1 (qj3 w.params (fdE w.params) F name tn kt j jt dv (E3 k) m vs lv):=by
 refine qu 4 λads hl hok => ?_
 obtain ⟨a0,a1,a2,a3,rfl⟩:=wL hl
 refine (C2 (qoo F name tn kt j jt dv (E3 k) m vs lv a0 a1 a2 a3) (qK B0) (λ_ _ _ _ p hp => ?_))
 simp only [E2,F5,or_false] at hp
 rcases hp with rfl | rfl | rfl | rfl
 ·exact vb h2
 ·exact vb h1
 ·exact vb (by rw [decide_eq_false (by simp only [E6];lia),decide_eq_false (by simp only [E6];lia)];rfl)
 ·exact vb (beq_false_of_ne (by simp only [E6];lia))
theorem qol (F:Nat) (name:U2) (tn kt:U1) (j:Int) (jt:U1) (dv:Nat) (k:Int) (vs:List T1) (lv:Nat):VC w 1 (qj2 w.params (fdE w.params) F name tn kt j jt dv k vs lv):=by
 refine qu 4 λads hl hok => ?_
 obtain ⟨a0,a1,a2,a3,rfl⟩:=wL hl
 exact (C2 (qom F name tn kt j jt dv k vs lv a0 a1 a2 a3) B0 (λ_ _ _ _ _ h=>nomatch h))
theorem qor (F:Nat) (name:U2) (tn:U1) (dv m lv:Nat) (h:qG name (kPs 0)=true):VC w 1 (qj5 w.params (fdE w.params) F name tn dv m lv):=by
 refine qu 4 λads hl hok => ?_
 obtain ⟨a0,a1,a2,a3,rfl⟩:=wL hl
 refine (C2 (qos F name tn dv m lv a0 a1 a2 a3) (qa (λ_ _=>zv (by simp)) (qK B0)) (λ_ _ _ _ p hp => ?_))
 rcases E2.mp hp with rfl | hp
 ·exact vb h
 ·cases hp
theorem qcT {F:Nat} {name:U2} {tn kt:U1} {dv:Nat} {A:Around} {R:Result→T2→Prop} {ads:List Nat}:∀(m k:Nat) (j:Int) (jt:U1) (vs:List T1) (lv:Nat) (s:T2),zk w A ads s→0<k→k+m≤1000→vs.length+m≤16777215→vg name k m=true→
  Objs s.heap ads [dict1 w.params sK kt (.int j jt) dv,zl (.str name tn),zx (E3 k) (E3 m),qd vs lv]→
  (∀(s':T2) (j':Int) (jt':U1) (ts:List U1),zp s s' ads→ts.length=(zr name k m).length→(j'=match m with | 0=>j | m+1=>E3 (k+m))→
   Objs s'.heap ads [dict1 w.params sK kt (.int j' jt') dv,zl (.str name tn),zx (E3 (k+m)) (E3 0),qd (vs++strsT (zr name k m) ts) (lv+(zr name k m).length)]→R (.ok .next) s')→
  codeAny (model prog w) A (jG (fdE w.params) F (adF ads 0 1) (adF ads 0 0) (adF ads 0 2) (adF ads 0 3)) R s
 | 0,k,j,jt,vs,lv,s,G,hk,hk2,hv,ho,hob,hfin=>by
  refine qol F name tn kt j jt dv (E3 k) vs lv A ads s R G.h0 G.hd G.hu G.hkt (λp hp=>nomatch hp) G.nd G.off hob (λk hk=>nomatch hk) G.bare λν s1 P => ?_
  refine hfin s1 j jt [] P.kept rfl rfl ?_
  have q:=P.post
  show Objs s1.heap ads [dict1 w.params sK kt (.int j jt) dv,zl (.str name tn),zx (E3 k) (E3 0),qd (vs++[]) lv]
  rw [I8]
  exact q
 | m+1,k,j,jt,vs,lv,s,G,hk,hk2,hv,ho,hob,hfin=>by
  simp only [vg,J8,L7,decide_eq_true_eq] at ho
  obtain ⟨o1,o2,o3,o4⟩:=ho
  have hi:E3 k+1=E3 (k+1):=rfl
  cases hd:yk name (E3 k-1) with
  | true =>
   have e:zr name k (m+1)=q9 name (kPs (E3 k))::zr name (k+1) m:=by
    show (match yk name (E3 k-1) with
     | true=>q9 name (kPs (E3 k))::zr name (k+1) m
     | false=>zr name (k+1) m)=_
    rw [hd]
   refine qop F name _ tn kt j jt dv k m vs lv hk (by lia) (by lia) o1 hd o2 rfl o3 A ads s R G.h0 G.hd G.hu G.hkt (λp hp=>nomatch hp) G.nd G.off hob (λk hk=>nomatch hk) G.bare λν s1 P => ?_
   have q:=P.post
   have q:Objs s1.heap ads [dict1 w.params sK kt (.int (E3 k) (ν 4)) dv,zl (.str name tn),zx (E3 k+1) (E3 (G6 m)-1),qd (vs++[.str (q9 name (kPs (E3 k))) (ν 3)]) (lv+1)]:=q
   rw [hi,qbb] at q
   refine qcT m (k+1) (E3 k) (ν 4) (vs++[.str (q9 name (kPs (E3 k))) (ν 3)]) (lv+1) s1 (G.next P.kept) (by lia) (by lia) (by rw [G1,L1];lia) o4 q λs2 j' jt' ts K2 h1 h2 q2 => ?_
   refine hfin s2 j' jt' (ν 3::ts) (P.kept.trans K2 λa ha => .inl ha) (by rw [e];exact congrArg G6 h1) ?_ ?_
   ·rw [h2]
    cases m with
    | zero=>rfl
    | succ m=>show E3 (k+1+m)=E3 (k+(m+1));congr 1;lia
   ·rw [e]
    show Objs s2.heap ads [dict1 w.params sK kt (.int j' jt') dv,zl (.str name tn),zx (E3 (k+(m+1))) (E3 0),qd (vs ++ .str (q9 name (kPs (E3 k))) (ν 3)::strsT (zr name (k+1) m) ts) (lv+((zr name (k+1) m).length+1))]
    rw [show k+(m+1)=k+1+m by lia,show lv+((zr name (k+1) m).length+1)=lv+1+(zr name (k+1) m).length by lia,O6]
    exact q2
  | false =>
   have e:zr name k (m+1)=zr name (k+1) m:=by
    show (match yk name (E3 k-1) with
     | true=>q9 name (kPs (E3 k))::zr name (k+1) m
     | false=>zr name (k+1) m)=_
    rw [hd]
   refine qon F name tn kt j jt dv k m vs lv hk (by lia) o1 hd A ads s R G.h0 G.hd G.hu G.hkt (λp hp=>nomatch hp) G.nd G.off hob (λk hk=>nomatch hk) G.bare λν s1 P => ?_
   have q:=P.post
   have q:Objs s1.heap ads [dict1 w.params sK kt (.int (E3 k) (ν 4)) dv,zl (.str name tn),zx (E3 k+1) (E3 (G6 m)-1),qd vs lv]:=q
   rw [hi,qbb] at q
   refine qcT m (k+1) (E3 k) (ν 4) vs lv s1 (G.next P.kept) (by lia) (by lia) (by lia) o4 q λs2 j' jt' ts K2 h1 h2 q2 => ?_
   refine hfin s2 j' jt' ts (P.kept.trans K2 λa ha => .inl ha) (by rw [e];exact h1) ?_ ?_
   ·rw [h2]
    cases m with
    | zero=>rfl
    | succ m=>show E3 (k+1+m)=E3 (k+(m+1));congr 1;lia
   ·rw [e,show k+(m+1)=k+1+m by lia]
    exact q2
noncomputable def nuT (ν:Nat→Nat) (n:Nat):List Nat:=(G8 n).map λi=>ν (20+i)
noncomputable def qq9 (p:T4) (fd:T5) (F:Nat) (name:U2) (tn:U1) (dv:Nat) (left:Int) (m lv:Nat):Ctr where
 code ads:=jG fd F (adF ads 0 1) (adF ads 0 0) (adF ads 0 2) (adF ads 0 3)
 ok ads:=[]
 pre ads:=[yM dv,zl (.str name tn),zx 0 left,qd [] lv]
 res ads ν := .done (.ok .next)
 post ads ν:=[dict1 p sK (ν 3) (.int (E3 m) (ν 4)) (dv+1),zl (.str name tn),zx (E3 (1+m)) (E3 0),qd (strsT (name::zr name 1 m) (tn::nuT ν (zr name 1 m).length)) (lv+1+(zr name 1 m).length)]
 news ads ν:=[]
 frz:=[]
theorem zp.post {C:Ctr} {ads:List Nat} {ν:Nat→Nat} {s s':T2} (K:zp s s' ads) (hp:Objs s'.heap ads (C.post ads ν)) (hn:C.news ads ν=[]) (hk:C.kpost ads ν=[]) (h0:ν 0=s'.heap.objs.size) (h1:ν 1=s'.toks) (h2:ν 2=s'.gens.size):Post C ads ν s s' :=
 ⟨hp,by rw [hn];trivial,by rw [hn];exact F8,(by rw [hn];exact λa h=>nomatch h),K.keep,by rw [h0];exact K.le0,h0.symm,h1.symm,h2.symm,by rw [h2];exact K.le2,K.gk,K.bare,K.dr,K.os,by rw [hk];exact λk h=>nomatch h⟩
noncomputable def nuW (x y z:Nat) (l ts:List Nat) (k:Nat):Nat:=if k<20 then nu x y z l k else ts.getD (k-20) 0
theorem qr6 {x y z:Nat} {l ts:List Nat} {n:Nat} (h:ts.length=n):nuT (nuW x y z l ts) n=ts:=ym h λi hi=>by
 unfold nuW
 rw [if_neg (by lia),Nat.add_sub_cancel_left]
 simp [hi]
theorem qfq {F:Nat} {name:U2} {tn:U1} {dv:Nat} {left:Int} {m lv:Nat} (hl:left=E3 (m+1)) (hm:m≤900) (h0:qG name (kPs 0)=true) (ho:vg name 1 m=true):VC w 1 (qq9 w.params (fdE w.params) F name tn dv left m lv):=by
 subst hl
 intro A ads s R hh hd hu hkt hok hnd hoff hob hfz hbare hfin
 have G:zk w A ads s:=⟨hh,hd,hu,hkt,hnd,hoff,hbare⟩
 refine qor F name tn dv m lv h0 A ads s R G.h0 G.hd G.hu G.hkt (λp hp=>nomatch hp) G.nd G.off hob (λk hk=>nomatch hk) G.bare λν s1 P => ?_
 have q:=P.post
 have q:Objs s1.heap ads [dict1 w.params sK (ν 3) (.int 0 (ν 4)) (dv+1),zl (.str name tn),zx (E3 1) (E3 (G6 m)-1),qd [.str name tn] (lv+1)]:=q
 rw [qbb] at q
 refine qcT m 1 0 (ν 4) [.str name tn] (lv+1) s1 (G.next P.kept) (by lia) (by lia) (by simp;lia) ho q λs2 j' jt' ts K2 h1 h2 q2 => ?_
 have ej:j'=E3 m:=by
  rw [h2]
  cases m with
  | zero=>rfl
  | succ m=>show E3 (1+m)=_;congr 1;lia
 refine hfin (nuW s2.heap.objs.size s2.toks s2.gens.size [ν 3,jt'] ts) s2 (zp.post (P.kept.trans K2 λa ha => .inl ha) ?_ rfl rfl rfl rfl rfl)
 show Objs s2.heap ads [dict1 w.params sK (ν 3) (.int (E3 m) jt') (dv+1),zl (.str name tn),zx (E3 (1+m)) (E3 0),qd (strsT (name::zr name 1 m) (tn::nuT (nuW s2.heap.objs.size s2.toks s2.gens.size [ν 3,jt'] ts) (zr name 1 m).length)) (lv+1+(zr name 1 m).length)]
 rw [qr6 h1,←ej]
 exact q2
noncomputable def zZ (name:U2) (t:U1) (ss:List U2):Ctr where
 code _ := .call (.ref 255) ⟨[.str name t],[]⟩
 ok _:=[]
 pre _:=[]
 res _ ν := .done (.ok (.ret (.ref (ν 3))))
 post _ _:=[]
 news _ ν:=[qd (strsT (name::ss) (t::nuT ν ss.length)) ss.length]
 frz:=[]
noncomputable def ps1:Option Int×Option Int×Int:=(some 1,none,1)
noncomputable def zF:U2→List U2→Bool
 | s,[]=>wj s&&(reachF s==s)
 | s,s'::ss=>wj s&&(!((reachF s).cps.toList==s.cps.toList)&&(!qG (reachF s) ps1&&(q9 (reachF s) ps1==s'&&(decide (s'.length≤1000)&&zF s' ss))))
noncomputable def eqL (x y:U2) (r:Bool):T1×T1:=(.bool (x.cps.toList==y.cps.toList), .bool r)
noncomputable def climbVq (s r s':U2):List (T1×T1):=[(.bool (decide (s'.length>sizeLine)), .bool false),(.str (q9 r ps1) 0, .str s' 0),(.bool (qG r ps1), .bool false),eqL r s false]
theorem qm4 (s0 s1 r0:U2) (t:U1):RunOk w (zZ s0 t [s1]) 0 258 [] [1] (hx 0x10f2ae314035f4070fe05d10f111f20f221f02d13036f04d6f03d010011001d000d) [oF,oF,(0, .str s1 0),oF,oT] [(rC 16 s0 r0),(rC 15 s1 s1)] (λa N t0 gN=>[eqL s1 s1 true]++climbVq s0 r0 s1) (λa N t0 gN=>[N+1,0,0,0,0,0,0,0,0,0,0,0,0,0,0,0,0,a.c 0 1+4]):=λN t0 gN a x' y' z'=>by
 kernel_rfl
theorem qm3 (s0 s1 s2 r0 r1:U2) (t:U1):RunOk w (zZ s0 t [s1,s2]) 0 367 [] [1] (hx 0x1242ae06d142ae314035f4070fe05d10f111f20f221f02d13036f04d6f03d010011001d000d) [oF,oF,(0, .str s1 0),oF,oF,oF,(0, .str s2 0),oF,oT] [(rC 16 s0 r0),(rC 15 s1 r1),(rC 15 s2 s2)] (λa N t0 gN=>[eqL s2 s2 true]++climbVq s1 r1 s2++climbVq s0 r0 s1) (λa N t0 gN=>[N+1,0,0,0,0,0,0,0,0,0,0,0,0,0,0,0,0,a.c 0 1+4,a.c 1 1+4]):=λN t0 gN a x' y' z'=>by
 kernel_rfl
theorem qm2 (s0 s1 s2 s3 r0 r1 r2:U2) (t:U1):RunOk w (zZ s0 t [s1,s2,s3]) 0 476 [] [1] (hx 0x1242ae07d292ae06d142ae314035f4070fe05d10f111f20f221f02d13036f04d6f03d010011001d000d) [oF,oF,(0, .str s1 0),oF,oF,oF,(0, .str s2 0),oF,oF,oF,(0, .str s3 0),oF,oT] [(rC 16 s0 r0),(rC 15 s1 r1),(rC 15 s2 r2),(rC 15 s3 s3)] (λa N t0 gN=>[eqL s3 s3 true]++climbVq s2 r2 s3++climbVq s1 r1 s2++climbVq s0 r0 s1) (λa N t0 gN=>[N+1,0,0,0,0,0,0,0,0,0,0,0,0,0,0,0,0,a.c 0 1+4,a.c 1 1+4,a.c 2 1+4]):=λN t0 gN a x' y' z'=>by
 kernel_rfl
theorem qm1 (s0 s1 s2 s3 s4 r0 r1 r2 r3:U2) (t:U1):RunOk w (zZ s0 t [s1,s2,s3,s4]) 0 585 [] [1] (hx 0x1242ae08d292ae07d292ae06d142ae314035f4070fe05d10f111f20f221f02d13036f04d6f03d010011001d000d) [oF,oF,(0, .str s1 0),oF,oF,oF,(0, .str s2 0),oF,oF,oF,(0, .str s3 0),oF,oF,oF,(0, .str s4 0),oF,oT] [(rC 16 s0 r0),(rC 15 s1 r1),(rC 15 s2 r2),(rC 15 s3 r3),(rC 15 s4 s4)] (λa N t0 gN=>[eqL s4 s4 true]++climbVq s3 r3 s4++climbVq s2 r2 s3++climbVq s1 r1 s2++climbVq s0 r0 s1) (λa N t0 gN=>[N+1,0,0,0,0,0,0,0,0,0,0,0,0,0,0,0,0,a.c 0 1+4,a.c 1 1+4,a.c 2 1+4,a.c 3 1+4]):=λN t0 gN a x' y' z'=>by
 kernel_rfl
theorem qm0 (s0 s1 s2 s3 s4 s5 r0 r1 r2 r3 r4:U2) (t:U1):RunOk w (zZ s0 t [s1,s2,s3,s4,s5]) 0 694 [] [1] (hx 0x1242ae09d292ae08d292ae07d292ae06d142ae314035f4070fe05d10f111f20f221f02d13036f04d6f03d010011001d000d) [oF,oF,(0, .str s1 0),oF,oF,oF,(0, .str s2 0),oF,oF,oF,(0, .str s3 0),oF,oF,oF,(0, .str s4 0),oF,oF,oF,(0, .str s5 0),oF,oT] [(rC 16 s0 r0),(rC 15 s1 r1),(rC 15 s2 r2),(rC 15 s3 r3),(rC 15 s4 r4),(rC 15 s5 s5)] (λa N t0 gN=>[eqL s5 s5 true]++climbVq s4 r4 s5++climbVq s3 r3 s4++climbVq s2 r2 s3++climbVq s1 r1 s2++climbVq s0 r0 s1) (λa N t0 gN=>[N+1,0,0,0,0,0,0,0,0,0,0,0,0,0,0,0,0,a.c 0 1+4,a.c 1 1+4,a.c 2 1+4,a.c 3 1+4,a.c 4 1+4]):=λN t0 gN a x' y' z'=>by
 kernel_rfl
theorem qmZ (s0 s1 s2 s3 s4 s5 s6 r0 r1 r2 r3 r4 r5:U2) (t:U1):RunOk w (zZ s0 t [s1,s2,s3,s4,s5,s6]) 0 803 [] [1] (hx 0x1242ae0ad292ae09d292ae08d292ae07d292ae06d142ae314035f4070fe05d10f111f20f221f02d13036f04d6f03d010011001d000d) [oF,oF,(0, .str s1 0),oF,oF,oF,(0, .str s2 0),oF,oF,oF,(0, .str s3 0),oF,oF,oF,(0, .str s4 0),oF,oF,oF,(0, .str s5 0),oF,oF,oF,(0, .str s6 0),oF,oT] [(rC 16 s0 r0),(rC 15 s1 r1),(rC 15 s2 r2),(rC 15 s3 r3),(rC 15 s4 r4),(rC 15 s5 r5),(rC 15 s6 s6)] (λa N t0 gN=>[eqL s6 s6 true]++climbVq s5 r5 s6++climbVq s4 r4 s5++climbVq s3 r3 s4++climbVq s2 r2 s3++climbVq s1 r1 s2++climbVq s0 r0 s1) (λa N t0 gN=>[N+1,0,0,0,0,0,0,0,0,0,0,0,0,0,0,0,0,a.c 0 1+4,a.c 1 1+4,a.c 2 1+4,a.c 3 1+4,a.c 4 1+4,a.c 5 1+4]):=λN t0 gN a x' y' z'=>by
 kernel_rfl
theorem qY {s s':U2} {ss:List U2} (h:zF s (s'::ss)=true):wj s=true∧(∀p∈climbVq s (reachF s) s',p.1=p.2)∧zF s' ss=true:=by
 simp only [zF,J8,L7,decide_eq_true_eq] at h
 obtain ⟨h1,h2,h3,h4,h5,h6⟩:=h
 refine ⟨h1,λp hp => ?_,h6⟩
 simp only [climbVq,E2,F5,or_false] at hp
 rcases hp with rfl | rfl | rfl | rfl
 ·exact vb (decide_eq_false (by unfold sizeLine;lia))
 ·show Value.str _ 0=Value.str _ 0
  rw [eq_of_beq h4]
 ·exact vb h3
 ·exact vb h2
theorem zt {s:U2} {t:U1} (h:zF s []=true):VC w 1 (zH s s t)∧∀p∈[eqL s s true],p.1=p.2:=by
 simp only [zF,J8] at h
 have z:=qv (w:=w) (t:=t) h.1
 rw [eq_of_beq h.2] at z
 exact ⟨z,λp hp=>by rcases E2.mp hp with rfl | hp;exact vb (beq_self_eq_true _);cases hp⟩
theorem zu {l l':List (T1×T1)} (h:∀p∈l,p.1=p.2) (h':∀p∈l',p.1=p.2):∀p∈l++l',p.1=p.2:=λp hp=>by
 rcases I1.mp hp with hp | hp
 ·exact h p hp
 ·exact h' p hp
theorem qmY {s0:U2} {t:U1} (h:zF s0 []=true):VC w 2 (zZ s0 t []):=vcr 0 149 [1] (hx 0x111f20f221f02d13036f04d6f03d010011001d000d) [oT] [(rC 16 s0 s0)] (λa N t0 gN=>[eqL s0 s0 true]) (λa N t0 gN=>[N+1,0,0,0,0,0,0,0,0,0,0,0,0,0,0,0,0]) (qa (λ_ _=>(zt h).1) (B0)) (λ_ _ _ _=>(zt (w:=w) (t:=0) h).2)
theorem qmX {s0 s1:U2} {t:U1} (h:zF s0 [s1]=true):VC w 2 (zZ s0 t [s1]):=by
 obtain ⟨o0,q0,h⟩:=qY h
 refine qu 0 λads hl hok => ?_
 obtain rfl:=E5 hl
 exact (C2 (qm4 s0 s1 (reachF s0) t) (qa (λ_ _=>qv o0) (qa (λ_ _=>(zt h).1) (B0))) (λ_ _ _ _=>(zu (zt (w:=w) (t:=0) h).2 q0)))
theorem qmW {s0 s1 s2:U2} {t:U1} (h:zF s0 [s1,s2]=true):VC w 2 (zZ s0 t [s1,s2]):=by
 obtain ⟨o0,q0,h⟩:=qY h
 obtain ⟨o1,q1,h⟩:=qY h
 refine qu 0 λads hl hok => ?_
 obtain rfl:=E5 hl
 exact (C2 (qm3 s0 s1 s2 (reachF s0) (reachF s1) t) (qa (λ_ _=>qv o0) (qa (λ_ _=>qv o1) (qa (λ_ _=>(zt h).1) (B0)))) (λ_ _ _ _=>(zu (zu (zt (w:=w) (t:=0) h).2 q1) q0)))
theorem qmV {s0 s1 s2 s3:U2} {t:U1} (h:zF s0 [s1,s2,s3]=true):VC w 2 (zZ s0 t [s1,s2,s3]):=by
 obtain ⟨o0,q0,h⟩:=qY h
 obtain ⟨o1,q1,h⟩:=qY h
 obtain ⟨o2,q2,h⟩:=qY h
 refine qu 0 λads hl hok => ?_
 obtain rfl:=E5 hl
 exact (C2 (qm2 s0 s1 s2 s3 (reachF s0) (reachF s1) (reachF s2) t) (qa (λ_ _=>qv o0) (qa (λ_ _=>qv o1) (qa (λ_ _=>qv o2) (qa (λ_ _=>(zt h).1) (B0))))) (λ_ _ _ _=>(zu (zu (zu (zt (w:=w) (t:=0) h).2 q2) q1) q0)))
theorem qmU {s0 s1 s2 s3 s4:U2} {t:U1} (h:zF s0 [s1,s2,s3,s4]=true):VC w 2 (zZ s0 t [s1,s2,s3,s4]):=by
 obtain ⟨o0,q0,h⟩:=qY h
 obtain ⟨o1,q1,h⟩:=qY h
 obtain ⟨o2,q2,h⟩:=qY h
 obtain ⟨o3,q3,h⟩:=qY h
 refine qu 0 λads hl hok => ?_
 obtain rfl:=E5 hl
 exact (C2 (qm1 s0 s1 s2 s3 s4 (reachF s0) (reachF s1) (reachF s2) (reachF s3) t) (qa (λ_ _=>qv o0) (qa (λ_ _=>qv o1) (qa (λ_ _=>qv o2) (qa (λ_ _=>qv o3) (qa (λ_ _=>(zt h).1) (B0)))))) (λ_ _ _ _=>(zu (zu (zu (zu (zt (w:=w) (t:=0) h).2 q3) q2) q1) q0)))
theorem qmT {s0 s1 s2 s3 s4 s5:U2} {t:U1} (h:zF s0 [s1,s2,s3,s4,s5]=true):VC w 2 (zZ s0 t [s1,s2,s3,s4,s5]):=by
 obtain ⟨o0,q0,h⟩:=qY h
 obtain ⟨o1,q1,h⟩:=qY h
 obtain ⟨o2,q2,h⟩:=qY h
 obtain ⟨o3,q3,h⟩:=qY h
 obtain ⟨o4,q4,h⟩:=qY h
 refine qu 0 λads hl hok => ?_
 obtain rfl:=E5 hl
 exact (C2 (qm0 s0 s1 s2 s3 s4 s5 (reachF s0) (reachF s1) (reachF s2) (reachF s3) (reachF s4) t) (qa (λ_ _=>qv o0) (qa (λ_ _=>qv o1) (qa (λ_ _=>qv o2) (qa (λ_ _=>qv o3) (qa (λ_ _=>qv o4) (qa (λ_ _=>(zt h).1) (B0))))))) (λ_ _ _ _=>(zu (zu (zu (zu (zu (zt (w:=w) (t:=0) h).2 q4) q3) q2) q1) q0)))
theorem qmS {s0 s1 s2 s3 s4 s5 s6:U2} {t:U1} (h:zF s0 [s1,s2,s3,s4,s5,s6]=true):VC w 2 (zZ s0 t [s1,s2,s3,s4,s5,s6]):=by
 obtain ⟨o0,q0,h⟩:=qY h
 obtain ⟨o1,q1,h⟩:=qY h
 obtain ⟨o2,q2,h⟩:=qY h
 obtain ⟨o3,q3,h⟩:=qY h
 obtain ⟨o4,q4,h⟩:=qY h
 obtain ⟨o5,q5,h⟩:=qY h
 refine qu 0 λads hl hok => ?_
 obtain rfl:=E5 hl
 exact (C2 (qmZ s0 s1 s2 s3 s4 s5 s6 (reachF s0) (reachF s1) (reachF s2) (reachF s3) (reachF s4) (reachF s5) t) (qa (λ_ _=>qv o0) (qa (λ_ _=>qv o1) (qa (λ_ _=>qv o2) (qa (λ_ _=>qv o3) (qa (λ_ _=>qv o4) (qa (λ_ _=>qv o5) (qa (λ_ _=>(zt h).1) (B0)))))))) (λ_ _ _ _=>(zu (zu (zu (zu (zu (zu (zt (w:=w) (t:=0) h).2 q5) q4) q3) q2) q1) q0)))
theorem qfL {name:U2} {t:U1} {ss:List U2} (hl:ss.length≤6) (h:zF name ss=true):VC w 2 (zZ name t ss):=by
 cases ss with
 | nil=>exact qmY h
 | cons s1 ss =>
  cases ss with
  | nil=>exact qmX h
  | cons s2 ss =>
   cases ss with
   | nil=>exact qmW h
   | cons s3 ss =>
    cases ss with
    | nil=>exact qmV h
    | cons s4 ss =>
     cases ss with
     | nil=>exact qmU h
     | cons s5 ss =>
      cases ss with
      | nil=>exact qmT h
      | cons s6 ss =>
       cases ss with
       | nil=>exact qmS h
       | cons _ _=>exact absurd hl (by show ¬(_+1+1+1+1+1+1+1≤6);lia)
end
noncomputable def qqY (o:Option Obj):T5:=match o with
 | some o=>match o.data with
  | .func fd=>fd
  | _=>default
 | none=>default
noncomputable def qmJ (fd:T5) (env:Env):Code:=match fd.body with
 | .stmts l=>match lGet l 4 with
  | some s=>match s with
   | .While t b o _ => .whileLoop t b o env
   | _ => .body [] env
  | none => .body [] env
 | _ => .body [] env
noncomputable def qr8:U2:=⟨#[116,111,108,100]⟩
noncomputable def qjD:U2:=⟨#[114,111,111,109,115]⟩
noncomputable def qjC:U2:=⟨#[115,116,101,112,115]⟩
noncomputable def qmp:U2:=⟨#[108,101,97,100]⟩
noncomputable def qjE:U2:=⟨#[104,101,97,100,115]⟩
noncomputable def qmn:U2:=⟨#[114,111,119,115]⟩
noncomputable def qmo:U2:=⟨#[108,101,102,116]⟩
noncomputable def qs5:U2:=⟨#[114,111,119]⟩
noncomputable def qr9:U2:=⟨#[115,116,101,112]⟩
noncomputable def qp1:U2:=⟨#[95,108,97,119,95,109,111,118,101,115,46,60,108,111,99,97,108,115,62,46]⟩
noncomputable def qtn (fd:T5) (F C:Nat):Env:={scope:=fd.scope,locals:=F,globals:=3,cells:=[(qr8,C)],qual:=qp1,func:=some 272,code := .ref 271,frame:=some F,builtins:=0}
noncomputable def whileM (fd:T5) (F C:Nat):Code:=qmJ fd (qtn fd F C)
noncomputable def ent (p:T4) (s:U2) (t:U1) (v:T1):DictEntry:=⟨hk p s, .str s t,v⟩
noncomputable def frO (es:List DictEntry) (n:Nat):Obj:=⟨.type "frame",none, .dict ⟨es⟩ n,#[]⟩
noncomputable def uD (v:T1):Obj:=⟨.type "cell",none, .cell (some v),#[]⟩
noncomputable def qkA (n:Nat) (x:Int) (t:U1) (y:Int) (u:U1):Obj:=⟨.type "tuple",none, .seq #[.int x t, .int y u] n,#[]⟩
structure MS where
 k0:U1
 k1:U1
 k2:U1
 k3:U1
 k4:U1
 k5:U1
 rm:Nat
 lead:Int
 lt:U1
 st0:U1
 st1:U1
 sn:Nat
 rn:Nat
 cd:Nat
 ht0:U1
 ht1:U1
 hn:Nat
 lx:Nat
 ly:Nat
structure RS where
 r:RT
 tk:U1
 h:Int
 th:U1
 n:Nat
 bs:List Nat
 is:List I3
structure LT where
 late:Bool
 k6:U1
 k7:U1
 rv:Nat
 sv:Int
 st:U1
noncomputable def frM (p:T4) (m:MS) (e:LT) (ads:List Nat) (left:Nat):Obj:=match e.late with
 | true=>frO [ent p qjD m.k0 (.ref m.rm),ent p qjC m.k1 (.ref (adF ads 0 4)),ent p qmp m.k2 (.int m.lead m.lt),ent p qjE m.k3 (.ref (adF ads 0 15)),ent p qmn m.k4 (.ref (adF ads 0 5)),ent p qmo m.k5 (.ref left),ent p qs5 e.k6 (.ref e.rv),ent p qr9 e.k7 (.int e.sv e.st)] 8
 | false=>frO [ent p qjD m.k0 (.ref m.rm),ent p qjC m.k1 (.ref (adF ads 0 4)),ent p qmp m.k2 (.int m.lead m.lt),ent p qjE m.k3 (.ref (adF ads 0 15)),ent p qmn m.k4 (.ref (adF ads 0 5)),ent p qmo m.k5 (.ref left)] 6
noncomputable def yY (p:T4) (x:RS) (ads:List Nat) (j ln:Nat) (refs:List T1) (n:Nat):List Obj:=[qdL (adF ads 0 (j+1)),qbX p x.r (adF ads 0 ln) (adF ads 0 (j+2)),jN (adF ads 0 (j+3)) refs n,j5 (hk p jL) x.tk x.h x.th]
structure LV where
 l0:Int
 t0:U1
 l1:Int
 t1:U1
 n:Nat
noncomputable def LV.ob (l:LV):Obj:=qd [.int l.l0 l.t0, .int l.l1 l.t1] l.n
noncomputable def yP (p:T4) (m:MS) (l:LV) (s0 s1:Int) (ads:List Nat):List Obj:=[l.ob,qkA m.sn s0 m.st0 s1 m.st1,qd [.ref (adF ads 0 6), .ref (adF ads 0 10)] m.rn]
noncomputable def wm (m:MS) (tb:Obj) (x y:RS):List Obj:=[zU m.cd,qd [.int x.h m.ht0, .int y.h m.ht1] m.hn,qd [] m.lx,qd [] m.ly,tb]
noncomputable def jq (p:T4) (m:MS) (e:LT) (vs:List T1) (tv:Nat) (l:LV) (s0 s1:Int) (tb:Obj) (x y:RS) (ads:List Nat):List Obj :=
 [frM p m e ads (adF ads 0 3),uD (.ref (adF ads 0 2)),qd vs tv]++yP p m l s0 s1 ads++yY p x ads 6 16 (x.bs.map .ref) x.n++yY p y ads 10 17 (y.bs.map .ref) y.n++wm m tb x y
noncomputable def stI:Bool→Int
 | true=>1
 | false=>0
noncomputable def rl (b:Bool) (x:RS):Int:=match b with
 | true=>x.h+((x.is.length+1:Nat):Int)
 | false=>x.h+(x.is.length:Int)
noncomputable def refs' (b:Bool) (x:RS) (a:Nat):List T1:=match b with
 | true=>x.bs.map .ref++[.ref a]
 | false=>x.bs.map .ref
noncomputable def qkv (b:Bool) (x:RS):Nat:=match b with
 | true=>x.n+1
 | false=>x.n
noncomputable def qam (e:LT) (k6 k7:U1) (rv:Nat) (sv:Int) (st:U1):LT:=match e.late with
 | true=>⟨true,e.k6,e.k7,rv,sv,st⟩
 | false=>⟨true,k6,k7,rv,sv,st⟩
noncomputable def qkK:Bool→Nat
 | true=>5
 | false=>4
noncomputable def tupsN (b0 b1:Bool) (t u v z:U1):List Obj:=match b0 with
 | true=>match b1 with
  | true=>[vB 0 sE t sO u,vB 0 sE v sO z]
  | false=>[vB 0 sE t sO u]
 | false=>match b1 with
  | true=>[vB 0 sE v sO z]
  | false=>[]
noncomputable def yW (p:T4) (fd:T5) (b0 b1:Bool) (m:MS) (e:LT) (vs:List T1) (tv:Nat) (l:LV) (tb:Obj) (x y:RS):Ctr where
 code ads:=whileM fd (adF ads 0 0) (adF ads 0 1)
 ok ads:=[(adF ads 0 14,194)]
 pre ads:=jq p m e vs tv l (stI b0) (stI b1) tb x y ads
 res ads ν := .go (whileM fd (adF ads 0 0) (adF ads 0 1))
 post ads ν:=[frM p m (qam e (ν 9) (ν 10) (adF ads 0 10) (stI b1) m.st1) ads (ν 3),uD (.ref (adF ads 0 2)),qd (vs++[.int (16*(15-rl b0 x)+(15-rl b1 y)) (ν 6)]) (tv+1)]++yP p m l (stI b0) (stI b1) ads++yY p x ads 6 16 (refs' b0 x (ν 4)) (qkv b0 x)++yY p y ads 10 17 (refs' b1 y (ν (qkK b0))) (qkv b1 y)++wm m tb x y
 news ads ν:=qd [.int (15-rl b0 x) (ν 7), .int (15-rl b1 y) (ν 8)] (ν 11)::tupsN b0 b1 (ν 12) (ν 13) (ν 14) (ν 15)
 frz:=[keyOf x.bs x.is,keyOf y.bs y.is]
noncomputable def qdQ (p:T4) (fd:T5) (m:MS) (e:LT) (vs:List T1) (tv:Nat) (l:LV) (s0 s1:Int) (tb:Obj) (x y:RS):Ctr where
 code ads:=whileM fd (adF ads 0 0) (adF ads 0 1)
 ok ads:=[]
 pre ads:=jq p m e vs tv l s0 s1 tb x y ads
 res ads ν := .done (.ok .next)
 post ads ν:=jq p m e vs tv l s0 s1 tb x y ads
 news ads ν:=[]
 frz:=[]
theorem Objs.append {h:Heap}:∀{as bs:List Nat} {os ps:List Obj},Objs h as os→Objs h bs ps→Objs h (as++bs) (os++ps)
 | [],_,[],_,_,H=>H
 | _::as,bs,_::os,ps,H,K=>⟨H.1,Objs.append H.2 K⟩
 | [],_,_::_,_,H,_=>H.elim
 | _::_,_,[],_,H,_=>H.elim
theorem D8 {h:Heap}:∀{as bs:List Nat} {os ps:List Obj},as.length=os.length→Objs h (as++bs) (os++ps)→Objs h as os∧Objs h bs ps
 | [],_,[],_,_,H=>⟨trivial,H⟩
 | _::as,bs,_::os,ps,e,H=>by
  have z:=D8 (as:=as) (os:=os) (G6.inj e) H.2
  exact ⟨⟨H.1,z.1⟩,z.2⟩
 | [],_,_::_,_,e,_=>nomatch e
 | _::_,_,[],_,e,_=>nomatch e
theorem B5 {h:Heap}:∀{bs:List Nat} {ps:List Obj},bs.length=ps.length→(∀p∈bs.zip ps,h.get? p.1=some p.2)→Objs h bs ps
 | [],[],_,_=>trivial
 | b::bs,p::ps,e,H=>⟨H (b,p) (.head _),B5 (G6.inj e) λq hq=>H q (.tail _ hq)⟩
 | [],_::_,e,_=>nomatch e
 | _::_,[],e,_=>nomatch e
theorem Objs.zip {h:Heap}:∀{bs:List Nat} {ps:List Obj},Objs h bs ps→∀p∈bs.zip ps,h.get? p.1=some p.2
 | [],[],_,p,hp=>nomatch hp
 | b::bs,o::ps,H,p,hp=>by
  rcases E2.mp hp with rfl | hp
  ·exact H.1
  ·exact Objs.zip H.2 p hp
 | [],_::_,H,_,_=>H.elim
 | _::_,[],H,_,_=>H.elim
theorem yr:∀{bs:List Nat} {ps:List Obj},bs.length=ps.length→(bs.zip ps).map (·.1)=bs
 | [],[],_=>rfl
 | b::bs,p::ps,e=>congrArg (b :: ·) (yr (G6.inj e))
 | [],_::_,e=>nomatch e
 | _::_,[],e=>nomatch e
structure qmG (C C':Ctr) (m:Nat) (bs:List Nat) (objs:List Obj):Prop where
 len:bs.length=objs.length
 plen:∀ads,(C'.pre ads).length=m
 qlen:∀ads ν,(C'.post ads ν).length=m
 code:∀ads,ads.length=m→C.code (ads++bs)=C'.code ads
 ok:∀ads,ads.length=m→C.ok (ads++bs)=C'.ok ads
 pre:∀ads,ads.length=m→C.pre (ads++bs)=C'.pre ads++objs
 post:∀ads ν,ads.length=m→C.post (ads++bs) ν=C'.post ads ν++objs
 res:∀ads ν,ads.length=m→C.res (ads++bs) ν=C'.res ads ν
 news:∀ads ν,ads.length=m→C.news (ads++bs) ν=C'.news ads ν
 frz:C.frz=[]
 frz':C'.frz=[bs.zip objs]
theorem yS {prog:T6} {w:T3} {kt:Nat→Option Obj} {lev:Nat} {C C':Ctr} {m:Nat} {bs:List Nat} {objs:List Obj} (hC:Valid prog w kt lev C) (z:qmG C C' m bs objs) (hkp:∀ads ν,C'.kpost ads ν=[]:=by intros;rfl) (hfs:C'.fside=none:=by rfl) (hfs0:C.fside=none:=by rfl) (hfr0:C.frs=none:=by rfl):Valid prog w kt lev C':=by
 intro A ads s R h0 hd hu hkt hok hnd hoff hob hfz hbare hfin
 have hfz:∀k∈C'.frz,KeyOk kt ads s.heap k:=by unfold FrzOk at hfz;rw [hfs] at hfz;exact hfz
 have hlen:ads.length=m:=hob.len.trans (z.plen ads)
 have K:=hfz (bs.zip objs) (by rw [z.frz'];exact .head _)
 have kn:bs.Nodup:=by have:=K.1;rwa [yr z.len] at this
 have kb:∀b∈bs,b∉ads∧kt b=none:=λb hb=>by
  have:b∈(bs.zip objs).map (·.1):=by rw [yr z.len];exact hb
  obtain ⟨p,hp,rfl⟩:=I6.mp this
  exact (K.2 p hp).2
 have ko:Objs s.heap bs objs:=B5 z.len λp hp=>(K.2 p hp).1
 rw [←z.code ads hlen]
 refine hC A (ads++bs) s R h0 hd hu hkt (by unfold OkA;rw [hfr0];show ∀p∈C.ok (ads++bs),_;rw [z.ok ads hlen];exact hok.ok) ?_ ?_ (by rw [z.pre ads hlen];exact hob.append ko) (by unfold FrzOk;rw [hfs0];show ∀k∈C.frz,_;rw [z.frz];exact λ_ h=>nomatch h) hbare ?_
 ·exact J2.mpr ⟨hnd,kn,λa ha b hb e=>(kb b hb).1 (e▸ha)⟩
 ·intro a ha
  rcases I1.mp ha with ha | ha
  ·exact hoff a ha
  ·exact (kb a ha).2
 ·intro ν s' P
  rw [z.res ads ν hlen]
  have q:=P.post
  rw [z.post ads ν hlen] at q
  have q:=D8 (by rw [hlen,z.qlen]) q
  have n1:=P.news
  have n2:=P.nodup
  have n3:=P.ge
  rw [z.news ads ν hlen] at n1 n2 n3
  refine hfin ν s' ⟨q.1,n1,n2,n3,λb o e hb => ?_,P.le0,P.sz,P.tk,P.gs,P.le2,P.gk,P.bare,P.dr,P.os,λk hk=>by rw [hkp] at hk;cases hk⟩
  by_cases hbb:b∈bs
  ·have:b∈(bs.zip objs).map (·.1):=by rw [yr z.len];exact hbb
   obtain ⟨p,hp,rfl⟩:=I6.mp this
   have e1:=(K.2 p hp).1
   rw [e] at e1
   rw [e1]
   exact q.2.zip p hp
  ·exact P.keep b o e λh=>(I1.mp h).elim hb hbb
theorem yR:∀{ads bs:List Nat} {i:Nat},i<ads.length→adF (ads++bs) 0 i=adF ads 0 i
 | a::ads,bs,0,_=>rfl
 | a::ads,bs,i+1,h=>yR (ads:=ads) (L6 h)
theorem qay:∀{ads bs:List Nat} {i:Nat},adF (ads++bs) 0 (ads.length+i)=adF bs 0 i
 | [],bs,i=>by simp
 | a::ads,bs,i=>by
  rw [K7,show ads.length+1+i=(ads.length+i)+1 by lia]
  exact qay (ads:=ads)
theorem qbV {ads:List Nat}:∀{bs cs:List Nat},zK (ads++cs++bs) (ads.length+cs.length) bs.length=bs.map .ref
 | [],_=>rfl
 | b::bs,cs=>by
  show Value.ref (adF (ads++cs++b::bs) 0 (ads.length+cs.length))::zK (ads++cs++b::bs) (ads.length+cs.length+1) bs.length=_
  have e1:adF (ads++cs++b::bs) 0 (ads.length+cs.length)=b:=by
   have z:=qay (ads:=ads++cs) (bs:=b::bs) (i:=0)
   rw [G1] at z
   exact z
  have e2:ads++cs++b::bs=ads++(cs++[b])++bs:=by simp
  have z:=qbV (ads:=ads) (bs:=bs) (cs:=cs++[b])
  rw [G1,L1,←M9] at z
  rw [e1,e2,z]
  rfl
theorem qbj {ads bs:List Nat}:zK (ads++bs) ads.length bs.length=bs.map .ref:=by
 have z:=qbV (ads:=ads) (bs:=bs) (cs:=[])
 simpa using z
structure qrL (C C':Ctr) (q m:Nat) (bs:List Nat) (objs:List Obj) (p1 p2:List Nat→List Obj) (r1 r2:List Nat→(Nat→Nat)→List Obj):Prop where
 len:bs.length=objs.length
 l1:∀ads,(p1 ads).length=q
 l2:∀ads ν,(r1 ads ν).length=q
 lm:∀ads,(C'.pre ads).length=q+m
 pre':∀ads,C'.pre ads=p1 ads++p2 ads
 post':∀ads ν,C'.post ads ν=r1 ads ν++r2 ads ν
 code:∀A B:List Nat,A.length=q→B.length=m→C.code (A++(bs++B))=C'.code (A++B)
 ok:∀A B:List Nat,A.length=q→B.length=m→C.ok (A++(bs++B))=C'.ok (A++B)
 pre:∀A B:List Nat,A.length=q→B.length=m→C.pre (A++(bs++B))=p1 (A++B)++(objs++p2 (A++B))
 post:∀(A B:List Nat) ν,A.length=q→B.length=m→C.post (A++(bs++B)) ν=r1 (A++B) ν++(objs++r2 (A++B) ν)
 res:∀(A B:List Nat) ν,A.length=q→B.length=m→C.res (A++(bs++B)) ν=C'.res (A++B) ν
 news:∀(A B:List Nat) ν,A.length=q→B.length=m→C.news (A++(bs++B)) ν=C'.news (A++B) ν
 frz:C.frz=[]
 frz':C'.frz=[bs.zip objs]
theorem qip {prog:T6} {w:T3} {kt:Nat→Option Obj} {lev:Nat} {C C':Ctr} {q m:Nat} {bs:List Nat} {objs:List Obj} {p1 p2:List Nat→List Obj} {r1 r2:List Nat→(Nat→Nat)→List Obj} (hC:Valid prog w kt lev C) (z:qrL C C' q m bs objs p1 p2 r1 r2) (hkp:∀ads ν,C'.kpost ads ν=[]:=by intros;rfl) (hfs:C'.fside=none:=by rfl) (hfs0:C.fside=none:=by rfl) (hfr0:C.frs=none:=by rfl):Valid prog w kt lev C':=by
 intro X ads s R h0 hd hu hkt hok hnd hoff hob hfz hbare hfin
 have hfz:∀k∈C'.frz,KeyOk kt ads s.heap k:=by unfold FrzOk at hfz;rw [hfs] at hfz;exact hfz
 have hlen:ads.length=q+m:=hob.len.trans (z.lm ads)
 obtain ⟨A,B,rfl,hA⟩:∃A B,ads=A++B∧A.length=q:=⟨ads.take q,ads.drop q,(List.take_append_drop q ads).symm,by rw [List.length_take];lia⟩
 have hB:B.length=m:=by rw [G1] at hlen;lia
 have K:=hfz (bs.zip objs) (by rw [z.frz'];exact .head _)
 have kn:bs.Nodup:=by have:=K.1;rwa [yr z.len] at this
 have kb:∀b∈bs,b∉A++B∧kt b=none:=λb hb=>by
  have:b∈(bs.zip objs).map (·.1):=by rw [yr z.len];exact hb
  obtain ⟨p,hp,rfl⟩:=I6.mp this
  exact (K.2 p hp).2
 have ko:Objs s.heap bs objs:=B5 z.len λp hp=>(K.2 p hp).1
 rw [z.pre'] at hob
 have ho:=D8 (by rw [hA,z.l1]) hob
 have nd:=J2.mp hnd
 rw [←z.code A B hA hB]
 refine hC X (A++(bs++B)) s R h0 hd hu hkt (by unfold OkA;rw [hfr0];show ∀p∈C.ok (A++(bs++B)),_;rw [z.ok A B hA hB];exact hok.ok) ?_ ?_ (by rw [z.pre A B hA hB];exact ho.1.append (ko.append ho.2)) (by unfold FrzOk;rw [hfs0];show ∀k∈C.frz,_;rw [z.frz];exact λ_ h=>nomatch h) hbare ?_
 ·refine J2.mpr ⟨nd.1,J2.mpr ⟨kn,nd.2.1,λb hb x hx e=>(kb b hb).1 (J0 _ (e▸hx))⟩,λa ha x hx e => ?_⟩
  rcases I1.mp hx with hx | hx
  ·exact (kb x hx).1 (I5 _ (e▸ha))
  ·exact nd.2.2 a ha x hx e
 ·intro a ha
  rcases I1.mp ha with ha | ha
  ·exact hoff a (I5 _ ha)
  ·rcases I1.mp ha with ha | ha
   ·exact (kb a ha).2
   ·exact hoff a (J0 _ ha)
 ·intro ν s' P
  rw [z.res A B ν hA hB]
  have e:=P.post
  rw [z.post A B ν hA hB] at e
  have e:=D8 (by rw [hA,z.l2]) e
  have e2:=D8 z.len e.2
  have n1:=P.news
  have n2:=P.nodup
  have n3:=P.ge
  rw [z.news A B ν hA hB] at n1 n2 n3
  refine hfin ν s' ⟨by rw [z.post'];exact e.1.append e2.2,n1,n2,n3,λb o eo hb => ?_,P.le0,P.sz,P.tk,P.gs,P.le2,P.gk,P.bare,P.dr,P.os,λk hk=>by rw [hkp] at hk;cases hk⟩
  by_cases hbb:b∈bs
  ·have:b∈(bs.zip objs).map (·.1):=by rw [yr z.len];exact hbb
   obtain ⟨p,hp,rfl⟩:=I6.mp this
   have e1:=(K.2 p hp).1
   rw [eo] at e1
   rw [e1]
   exact e2.1.zip p hp
  ·refine P.keep b o eo λh => ?_
   rcases I1.mp h with h | h
   ·exact hb (I5 _ h)
   ·rcases I1.mp h with h | h
    ·exact hbb h
    ·exact hb (J0 _ h)
section
variable {w:T3}
theorem ex2 {l:List Nat} {k:Nat} (h:l.length=k+2):∃a b t,l=a::b::t∧t.length=k:=match l,h with
 | a::b::t,h=>⟨a,b,t,rfl,G6.inj (G6.inj h)⟩
theorem ex3 {l:List Nat} {k:Nat} (h:l.length=k+3):∃a b c t,l=a::b::c::t∧t.length=k:=match l,h with
 | a::t,h=>by
  obtain ⟨b,c,u,e,hu⟩:=ex2 (k:=k) (G6.inj h)
  exact ⟨a,b,c,u,e▸rfl,hu⟩
theorem ex5 {l:List Nat} {k:Nat} (h:l.length=k+5):∃a b c d e t,l=a::b::c::d::e::t∧t.length=k:=by
 obtain ⟨a,b,t,rfl,ht⟩:=ex2 (k:=k+3) h
 obtain ⟨c,d,e,u,rfl,hu⟩:=ex3 ht
 exact ⟨a,b,c,d,e,u,rfl,hu⟩
theorem ex7 {l:List Nat} {k:Nat} (h:l.length=k+7):∃a b c d e f g t,l=a::b::c::d::e::f::g::t∧t.length=k:=by
 obtain ⟨a,b,t,rfl,ht⟩:=ex2 (k:=k+5) h
 obtain ⟨c,d,e,f,g,u,rfl,hu⟩:=ex5 ht
 exact ⟨a,b,c,d,e,f,g,u,rfl,hu⟩
theorem qtA {k:Nat} {P:List Nat→Prop} (f:∀a b c d e t,t.length=k→P (a::b::c::d::e::t)) (l:List Nat) (h:l.length=k+5):P l:=by
 obtain ⟨a,b,c,d,e,t,rfl,ht⟩:=ex5 h
 exact f a b c d e t ht
theorem qbE {k:Nat} {P:List Nat→Prop} (f:∀a b c d e g i t,t.length=k→P (a::b::c::d::e::g::i::t)) (l:List Nat) (h:l.length=k+7):P l:=by
 obtain ⟨a,b,c,d,e,g,i,t,rfl,ht⟩:=ex7 h
 exact f a b c d e g i t ht
noncomputable def oxI:List I3→List IT
 | []=>[]
 | i::l=>(match l with | []=>xI i | _::_=>oI i)::oxI l
theorem qgc:∀is,(oxI is).length=is.length
 | []=>rfl
 | _::l=>congrArg G6 (qgc l)
theorem qmv (i:I3):itL (oI i)≤2:=by simp [itL,oI,Str.length]
theorem qsl (i:I3):itL (xI i)≤2:=by simp [itL,xI,Str.length]
theorem qsm (i:I3):itL (eI i)≤2:=by simp [itL,eI,Str.length]
theorem qjr:∀(is:List I3),∀i∈oxI is,itL i≤2
 | [],_,h=>nomatch h
 | [a],i,h=>by
  rcases E2.mp h with rfl | h
  ·exact qsl _
  ·cases h
 | a::b::l,i,h=>by
  rcases E2.mp h with rfl | h
  ·exact qmv _
  ·exact qjr (b::l) i h
noncomputable def qqu (k:Nat):List Nat:=[0,0,k+4,k+4,0,0,0,k+4,1,0,0,0,1,0,0,0,1,0,k+5,0,0,3,0,0,k+6,k+6,k+4,1,0,0,0,0,0,0,1,0,1,0,0,0,1,1,0,2,k+7,k+7,k+7,k+7,k+8,k+7,k+7,k+7,0,0,0,k+5]++(G8 k).flatMap (λi=>[k+5,k+5,k+5,k+5,1,k+5,k+5,k+5,i+4,i+4,i+4,i+4,k+3*i+9,k+3*i+9,k+3*i+9,k+3*i+9,k+3*i+9,i+4,k+3*i+9,k+3*i+9,k+3*i+9,k+3*i+9,k+3*i+9,k+3*i+9,i+4,k+3*i+9,k+3*i+9,k+3*i+9,k+3*i+9,k+3*i+9,k+3*i+9,i+4,k+3*i+9,k+3*i+9,k+3*i+11,k+6,k+6,k+6,k+6,0,0,k+6,0,0,k+6,k+8,k+8,k+8,k+8,k+7,k+7,k+7,0,0,0])++[k+5,k+5,k+5,k+5,1,k+5,k+5,4*k+10,4*k+12]
noncomputable def qqt:Nat→List (Nat×T1)
 | 0=>[]
 | k+1=>oF::oF::oF::oF::oT::qqt k
noncomputable def qqs (k:Nat):List (Nat×T1):=oT::qqt k
noncomputable def LenR (w:T3) (k:Nat):Prop:=∀hh tk h t n cd a0 a1,Cur k λits:List IT=>Cur k λbs:List Nat=>RunOk w (un hh tk h t n cd its) (k+3) (134+132*k) (a0::a1::194::bs) [] (qqu k) (qqs k) [] (λ_ _ _ _=>lenVq h its) (λ_ _ t0 _=>[t0+(5+8*k)])
theorem yD:LenR w 0∧LenR w 1∧LenR w 2∧LenR w 3∧LenR w 4∧LenR w 5∧LenR w 6∧LenR w 7∧LenR w 8∧LenR w 9:=by
 refine ⟨?_,?_,?_,?_,?_,?_,?_,?_,?_,?_⟩ <;> (repeat intro _) <;> kernel_rfl
theorem qb4:LenR w 10∧LenR w 11∧LenR w 12∧LenR w 13:=by
 refine ⟨?_,?_,?_,?_⟩ <;> (repeat intro _) <;> kernel_rfl
theorem qeS:LenR w 14∧LenR w 15∧LenR w 16:=by
 refine ⟨?_,?_,?_⟩ <;> (repeat intro _) <;> kernel_rfl
theorem qs9:∀k,k≤16→LenR w k
 | 0,_=>yD.1
 | 1,_=>yD.2.1
 | 2,_=>yD.2.2.1
 | 3,_=>yD.2.2.2.1
 | 4,_=>yD.2.2.2.2.1
 | 5,_=>yD.2.2.2.2.2.1
 | 6,_=>yD.2.2.2.2.2.2.1
 | 7,_=>yD.2.2.2.2.2.2.2.1
 | 8,_=>yD.2.2.2.2.2.2.2.2.1
 | 9,_=>yD.2.2.2.2.2.2.2.2.2
 | 10,_=>qb4.1
 | 11,_=>qb4.2.1
 | 12,_=>qb4.2.2.1
 | 13,_=>qb4.2.2.2
 | 14,_=>qeS.1
 | 15,_=>qeS.2.1
 | 16,_=>qeS.2.2
 | k+17,h=>absurd h (by lia)
theorem w2:∀(is:List I3) (h:Int),jp h (is.map oI)=h+is.length
 | [],h=>by show h=h+0;lia
 | i::is,h=>by
  show jp (h+1) (is.map oI)=h+((is.length+1:Nat):Int)
  rw [w2 is]
  lia
theorem qcy {its:List IT} (hi:∀i∈its,itL i≤2) (hh:Int) (tk:U1) (h:Int) (t:U1) (n cd:Nat) (h0:0≤h) (h1:h≤50) (hl:its.length≤16):VC w 1 (un hh tk h t n cd its) :=
 j3 (its.length+3) (134+132*its.length) [] (qqu its.length) (qqs its.length) [] (λ_ _ _ _=>lenVq h its) (λ_ _ t0 _=>[t0+(5+8*its.length)]) (by decide) (λ_=>rfl)
  (λads=>by show (its.map itO).length+1+1+1=_;rw [G3]) F8 (λ_ h=>nomatch h) B0 (λ_ _ _ _=>qeQ hi h0 (by lia)) λads hl' hok=>by
   obtain ⟨a0,a1,a2,l,rfl,hm⟩:=ex3 hl'
   have e:a2=194:=hok _ (.head _)
   subst e
   exact qT (qT (qs9 its.length hl hh tk h t n cd a0 a1) its rfl) l hm
theorem qhH (hh:Int) (tk:U1) (h:Int) (th:U1) (n cd:Nat) (is:List I3) (h0:0≤h) (h1:h≤50) (hl:is.length≤15):VC w 1 (un hh tk h th n cd (is.map oI)) :=
 qcy (λi hi=>by obtain ⟨j,_,rfl⟩:=I6.mp hi;exact qmv j) hh tk h th n cd h0 h1 (by rw [G3];lia)
theorem qqr (hh:Int) (tk:U1) (h:Int) (th:U1) (n cd:Nat) (is:List I3) (h0:0≤h) (h1:h≤50) (hk:1≤is.length) (hl:is.length≤16):VC w 1 (un hh tk h th n cd (oxI is)) :=
 qcy (qjr is) hh tk h th n cd h0 h1 (by rw [qgc];exact hl)
theorem jB (hh:Int) (tk:U1) (h:Int) (t:U1) (n cd:Nat) (h0:0≤h) (h1:h≤50):VC w 1 (un hh tk h t n cd []):=qhH hh tk h t n cd [] h0 h1 (I7 _)
theorem yn (hh:Int) (tk:U1) (h:Int) (t:U1) (n cd:Nat) (i0:I3) (h0:0≤h) (h1:h≤50):VC w 1 (un hh tk h t n cd [xI i0]):=qqr hh tk h t n cd [i0] h0 h1 (F4 1) (show 1≤16 by decide)
theorem qeR (hh:Int) (tk:U1) (h:Int) (t:U1) (n cd:Nat) (i0:I3) (h0:0≤h) (h1:h≤50):VC w 1 (un hh tk h t n cd [eI i0]) :=
 qcy (its:=[eI i0]) (λi hi=>by obtain rfl:=M5.mp hi;exact qsm i0) hh tk h t n cd h0 h1 (by show 1≤16;decide)
noncomputable def i3s (os:List Obj):Nat→Nat→List I3
 | _,0=>[]
 | j,k+1=>wK (at0 os j)::i3s os (j+1) k
theorem w0 (os:List Obj):∀j k,(i3s os j k).length=k
 | _,0=>rfl
 | j,k+1=>congrArg G6 (w0 os (j+1) k)
theorem qaV (os:List Obj):∀k j,itsAt (F2 k .o) os j=(i3s os j k).map oI
 | 0,_=>rfl
 | k+1,j=>congrArg (oI (wK (at0 os j)) :: ·) (qaV os k (j+1))
theorem qgv (os:List Obj):∀k j,itsAt (F2 k .o++[.x]) os j=oxI (i3s os j (k+1))
 | 0,_=>rfl
 | k+1,j=>congrArg (oI (wK (at0 os j)) :: ·) (qgv os k (j+1))
theorem qaT {h:Int} {k:Nat} (h0:0≤h) (h1:h≤50) (hk:k≤15) (os:List Obj):VC w 1 (qA h (F2 k .o) os):=by
 unfold qA
 rw [qaV]
 exact qhH _ _ _ _ _ _ _ h0 h1 (by rw [w0];exact hk)
theorem qnm {h:Int} {k:Nat} (h0:0≤h) (h1:h≤50) (hk:k≤15) (os:List Obj):VC w 1 (qA h (F2 k .o++[.x]) os):=by
 unfold qA
 rw [qgv]
 exact qqr _ _ _ _ _ _ _ h0 h1 (by rw [w0];lia) (by rw [w0];lia)
theorem qsd (hh:Int) (tk:U1) (h:Int) (t:U1) (n:Nat) (a0 a1:Nat):RunOk w (qhG hh tk h t n) 3 145 [a0,a1,194] [] (hx 0x10fd0dd0151f80030010bd0f0ad02d1010011112f355009d010f03d0105d11001100201d1001004d000d) [oT] [] (λ_ _ _ _=>lenVq h []) (λ_ N t0 _=>[t0+10,N+4]):=λN t0 gN a x y z=>by
 kernel_rfl
end
section
variable {w:T3}
theorem qcx (is:List I3):(is.map oI).map itO=is.map λi=>itO (oI i):=by rw [List.map_map];rfl
theorem qk6 {ads:List Nat} {k:Nat} {bs:List Nat} (h:ads.length=3) (hk:bs.length=k):zK (ads++bs) 3 k=bs.map .ref:=by
 have z:=qbj (ads:=ads) (bs:=bs)
 rwa [h,hk] at z
theorem qb3 {hh:Int} {tk:U1} {h:Int} {th:U1} {n cd:Nat} {bs:List Nat} {is:List I3} (hb:bs.length=is.length) (h0:0≤h) (h1:h≤50) (hl:is.length≤15):VC w 1 (qk4 hh tk h th n cd bs is):=by
 refine yS (qhH hh tk h th n cd is h0 h1 hl) (m:=3) (bs:=bs) (objs:=is.map λi=>itO (oI i)) ?_
 have e5:∀ads:List Nat,ads.length=3→∀i,i<3→adF (ads++bs) 0 i=adF ads 0 i:=λads h i hi=>yR (by lia)
 refine ⟨by rw [G3];exact hb,λ_=>rfl,λ_ _=>rfl,λads h => ?_,λads h => ?_,λads h => ?_,λads ν h => ?_,λads ν h => ?_,λads ν h=>rfl,rfl,rfl⟩
 ·show Code.call _ _=Code.call _ _
  rw [e5 ads h 0 (by decide)]
 ·show [_]=[_]
  rw [e5 ads h 2 (by decide)]
 ·show yE _ _ _ _ _ _ _ _=[_,_,_]++_
  unfold yE
  rw [e5 ads h 1 (by decide),G3,qk6 h hb,qcx]
  rfl
 ·show yE _ _ _ _ _ _ _ _=[_,_,_]++_
  unfold yE
  rw [e5 ads h 1 (by decide),G3,qk6 h hb,qcx]
  rfl
 ·show vH.done _=vH.done _
  rw [w2]
variable {w:T3}
theorem qrI {A B:List Nat} {q:Nat} (h:A.length=q):adF (A++B) 0 q=adF B 0 0:=by
 have z:=qay (ads:=A) (bs:=B) (i:=0)
 rwa [h] at z
theorem wO {hh:Int} {tk:U1} {h:Int} {th:U1} {n cd:Nat} {bs:List Nat} {is:List I3} {i:I3} (hb:bs.length=is.length) (h0:0≤h) (h1:h≤50) (hl:is.length+1≤15):VC w 1 (qeT hh tk h th n cd bs is i):=by
 refine qip (C:=un hh tk h th n cd ((is++[i]).map oI)) (q:=3) (m:=1) (bs:=bs) (objs:=is.map λi=>itO (oI i))
  (p1:=λads=>[jN (adF ads 0 1) (bs.map .ref++[.ref (adF ads 0 3)]) n,j5 hh tk h th,zU cd]) (p2:=λ_=>[itO (oI i)])
  (r1:=λads _=>[jN (adF ads 0 1) (bs.map .ref++[.ref (adF ads 0 3)]) n,j5 hh tk h th,zU cd]) (r2:=λ_ _=>[itO (oI i)])
  (qhH hh tk h th n cd (is++[i]) h0 h1 (by rw [G1];exact hl)) ?_
 have e5:∀A B:List Nat,A.length=3→∀i,i<3→adF (A++(bs++B)) 0 i=adF (A++B) 0 i:=λA B h i hi=>by rw [yR (by lia),yR (by lia)]
 have key:∀A B:List Nat,A.length=3→B.length=1→yE hh tk h th n (zU cd) ((is++[i]).map oI) (A++(bs++B))=[jN (adF (A++B) 0 1) (bs.map .ref++[.ref (adF (A++B) 0 3)]) n,j5 hh tk h th,zU cd]++((is.map λi=>itO (oI i))++[itO (oI i)]):=by
  intro A B hA hB
  unfold yE
  have e3:adF (A++B) 0 3=adF B 0 0:=qrI hA
  obtain ⟨b,rfl⟩:∃b,B=[b]:=by
   match B,hB with
   | [b],_=>exact ⟨b,rfl⟩
  rw [e5 A [b] hA 1 (by decide),e3,G3,qk6 (bs:=bs++[b]) hA (by rw [G1,G1,hb];rfl),qcx,L2,L2]
  rfl
 refine ⟨by rw [G3];exact hb,λ_=>rfl,λ_ _=>rfl,λ_=>rfl,λ_=>rfl,λ_ _=>rfl,λA B hA hB => ?_,λA B hA hB => ?_,key,λA B ν hA hB=>key A B hA hB,λA B ν hA hB => ?_,λA B ν hA hB=>rfl,rfl,rfl⟩
 ·show Code.call _ _=Code.call _ _
  rw [e5 A B hA 0 (by decide)]
 ·show [_]=[_]
  rw [e5 A B hA 2 (by decide)]
 ·show vH.done _=vH.done _
  rw [w2,G1]
  rfl
end
section
variable {w:T3}
noncomputable def qmd (k:Nat):List Nat:=[0,0,k+3,k+3,0,0,k+3,1,0,0,0,1,0,0,0,1,0,k+4,0,0,2,0,0,k+5,k+5,k+6,k+6,k+6,k+6,k+6,k+6,k+7,k+6,k+6,k+6,k+6,k+6,k+6,k+7,k+7,k+7,k+7,k+7,k+7,k+6,k+6,k+6,0,0,0,k+4]++(G8 k).flatMap (λi=>[k+4,k+4,k+4,k+4,1,k+4,k+4,k+4,i+3,i+3,i+3,i+3,k+4*i+8,k+4*i+8,k+4*i+8,k+4*i+8,k+4*i+8,i+3,k+4*i+8,k+4*i+8,k+4*i+8,k+4*i+8,k+4*i+8,k+4*i+8,i+3,k+4*i+8,k+4*i+8,k+4*i+8,k+4*i+8,k+4*i+8,k+4*i+8,i+3,k+4*i+8,k+4*i+8,k+4*i+10,k+5,k+5,k+5,k+5,0,k+5,k+5,k+4*i+11,k+4*i+11,k+7,k+7,k+7,k+6,k+6,k+6,0,0,0])++[k+4,k+4,k+4,k+4,1,k+4,k+4,5*k+9,5*k+11,k+7]
noncomputable def qmc (k:Nat):List Nat:=[0,0,k+3,k+3,0,0,k+3,1,0,0,0,1,0,0,0,1,0,k+4,0,0,2,2,2,2,0,0,k+8,k+8,k+9,k+9,k+9,k+9,k+9,k+9,k+10,k+9,k+9,k+9,k+9,k+9,k+9,k+10,k+10,k+10,k+10,k+10,k+10,k+9,k+9,k+9,0,0,0,k+4]++(G8 k).flatMap (λi=>[k+4,k+4,k+4,k+4,1,k+4,k+4,k+4,i+3,i+3,i+3,i+3,k+4*i+11,k+4*i+11,k+4*i+11,k+4*i+11,k+4*i+11,i+3,k+4*i+11,k+4*i+11,k+4*i+11,k+4*i+11,k+4*i+11,k+4*i+11,i+3,k+4*i+11,k+4*i+11,k+4*i+11,k+4*i+11,k+4*i+11,k+4*i+11,i+3,k+4*i+11,k+4*i+11,k+4*i+13,k+8,k+8,k+8,k+8,0,k+8,k+8,k+4*i+14,k+4*i+14,k+10,k+10,k+10,k+9,k+9,k+9,0,0,0])++[k+4,k+4,k+4,k+4,1,k+4,k+4,5*k+12,5*k+14,k+10]
noncomputable def qdp:Nat→Nat
 | 1=>6
 | k=>3*k+4
noncomputable def StrR (w:T3) (F:List I3→List IT) (k:Nat):Prop:=∀da n cd a0,Cur k λis:List I3=>Cur k λbs:List Nat=>RunOk w (qsX da n cd (F is)) (k+2) (331+106*k) (a0::201::bs) [] (qmd k) [] [] (λ_ _ _ _=>[]) (λ_ N t0 _=>[t0+qdp k,cd])
noncomputable def StrZ (w:T3) (F:List I3→List IT) (k:Nat):Prop:=∀da n a0,Cur k λis:List I3=>Cur k λbs:List Nat=>RunOk w (qrW da n (F is)) (k+2) (342+106*k) (a0::201::bs) [] (qmc k) [] [] (λ_ _ _ _=>[]) (λ_ N t0 _=>[t0+(qdp k+5),N+4])
theorem zE:StrR w (G7 oI) 0∧StrR w (G7 oI) 1∧StrR w (G7 oI) 2∧StrR w (G7 oI) 3∧StrR w (G7 oI) 4∧StrR w (G7 oI) 5∧StrR w (G7 oI) 6∧StrR w (G7 oI) 7∧StrR w (G7 oI) 8∧StrR w (G7 oI) 9∧StrR w (G7 oI) 10∧StrR w (G7 oI) 11∧StrR w (G7 oI) 12∧StrR w (G7 oI) 13∧StrR w (G7 oI) 14∧StrR w (G7 oI) 15:=by
 refine ⟨?_,?_,?_,?_,?_,?_,?_,?_,?_,?_,?_,?_,?_,?_,?_,?_⟩ <;> (repeat intro _) <;> kernel_rfl
theorem qpA:StrR w oxI 1:=by
 repeat intro _
 kernel_rfl
theorem qpB:StrR w (G7 eI) 1:=by
 repeat intro _
 kernel_rfl
theorem zD:StrZ w (G7 oI) 0∧StrZ w (G7 oI) 1∧StrZ w (G7 oI) 2∧StrZ w (G7 oI) 3∧StrZ w (G7 oI) 4∧StrZ w (G7 oI) 5∧StrZ w (G7 oI) 6∧StrZ w (G7 oI) 7∧StrZ w (G7 oI) 8∧StrZ w (G7 oI) 9∧StrZ w (G7 oI) 10∧StrZ w (G7 oI) 11∧StrZ w (G7 oI) 12∧StrZ w (G7 oI) 13∧StrZ w (G7 oI) 14∧StrZ w (G7 oI) 15:=by
 refine ⟨?_,?_,?_,?_,?_,?_,?_,?_,?_,?_,?_,?_,?_,?_,?_,?_⟩ <;> (repeat intro _) <;> kernel_rfl
theorem qpy:StrZ w (G7 eI) 1:=by
 repeat intro _
 kernel_rfl
theorem qrU:∀k,0≤k→k≤15→StrR w (G7 oI) k
 | 0,h,_=>zE.1
 | 1,h,_=>zE.2.1
 | 2,h,_=>zE.2.2.1
 | 3,h,_=>zE.2.2.2.1
 | 4,h,_=>zE.2.2.2.2.1
 | 5,h,_=>zE.2.2.2.2.2.1
 | 6,h,_=>zE.2.2.2.2.2.2.1
 | 7,h,_=>zE.2.2.2.2.2.2.2.1
 | 8,h,_=>zE.2.2.2.2.2.2.2.2.1
 | 9,h,_=>zE.2.2.2.2.2.2.2.2.2.1
 | 10,h,_=>zE.2.2.2.2.2.2.2.2.2.2.1
 | 11,h,_=>zE.2.2.2.2.2.2.2.2.2.2.2.1
 | 12,h,_=>zE.2.2.2.2.2.2.2.2.2.2.2.2.1
 | 13,h,_=>zE.2.2.2.2.2.2.2.2.2.2.2.2.2.1
 | 14,h,_=>zE.2.2.2.2.2.2.2.2.2.2.2.2.2.2.1
 | 15,h,_=>zE.2.2.2.2.2.2.2.2.2.2.2.2.2.2.2
 | k+16,_,h=>absurd h (by omega)
theorem qrT:∀k,0≤k→k≤15→StrZ w (G7 oI) k
 | 0,h,_=>zD.1
 | 1,h,_=>zD.2.1
 | 2,h,_=>zD.2.2.1
 | 3,h,_=>zD.2.2.2.1
 | 4,h,_=>zD.2.2.2.2.1
 | 5,h,_=>zD.2.2.2.2.2.1
 | 6,h,_=>zD.2.2.2.2.2.2.1
 | 7,h,_=>zD.2.2.2.2.2.2.2.1
 | 8,h,_=>zD.2.2.2.2.2.2.2.2.1
 | 9,h,_=>zD.2.2.2.2.2.2.2.2.2.1
 | 10,h,_=>zD.2.2.2.2.2.2.2.2.2.2.1
 | 11,h,_=>zD.2.2.2.2.2.2.2.2.2.2.2.1
 | 12,h,_=>zD.2.2.2.2.2.2.2.2.2.2.2.2.1
 | 13,h,_=>zD.2.2.2.2.2.2.2.2.2.2.2.2.2.1
 | 14,h,_=>zD.2.2.2.2.2.2.2.2.2.2.2.2.2.2.1
 | 15,h,_=>zD.2.2.2.2.2.2.2.2.2.2.2.2.2.2.2
 | k+16,_,h=>absurd h (by omega)
theorem qcr {F:List I3→List IT} {is:List I3} (R:StrR w F is.length) (hF:(F is).length=is.length) (da n cd:Nat):VC w 1 (qd3 da n (qn cd) (λ_=>cd) (F is)) :=
 j3 (is.length+2) (331+106*is.length) [] (qmd is.length) [] [] (λ_ _ _ _=>[]) (λ_ N t0 _=>[t0+qdp is.length,cd]) (by decide) (λ_=>rfl)
  (λads=>by show ((F is).map itO).length+1+1=_;rw [G3,hF]) F8 (λ_ h=>nomatch h) B0 (λ_ _ _ _ _ h=>nomatch h) λads hl hok=>by
   obtain ⟨a0,a1,l,rfl,hm⟩:=ex2 hl
   have e:a1=201:=hok _ (.head _)
   subst e
   exact qT (qT (R da n cd a0) is rfl) l hm
theorem qf7 {F:List I3→List IT} {is:List I3} (R:StrZ w F is.length) (hF:(F is).length=is.length) (da n:Nat):VC w 1 (qd3 da n (yB []) id (F is)) :=
 j3 (is.length+2) (342+106*is.length) [] (qmc is.length) [] [] (λ_ _ _ _=>[]) (λ_ N t0 _=>[t0+(qdp is.length+5),N+4]) (by decide) (λ_=>rfl)
  (λads=>by show ((F is).map itO).length+1+1=_;rw [G3,hF]) F8 (λ_ h=>nomatch h) B0 (λ_ _ _ _ _ h=>nomatch h) λads hl hok=>by
   obtain ⟨a0,a1,l,rfl,hm⟩:=ex2 hl
   have e:a1=201:=hok _ (.head _)
   subst e
   exact qT (qT (R da n a0) is rfl) l hm
noncomputable def uP (ks:List KI) (os:List Obj):Ctr:=qd3 (dAt (at0 os 0)) (qB (at0 os 0)) (qn (yo (at0 os 1))) (λ_=>yo (at0 os 1)) (itsAt ks os 2)
noncomputable def yl (w:T3) (tb:Obj) (f:Nat→Nat):Prop:=(∀da n (ks:List KI) (os:List Obj),(∃k,k≤15∧ks=F2 k .o)∨ks=[.e]→VC w 1 (qd3 da n tb f (itsAt ks os 2)))
theorem jJ {w:T3} (cd:Nat):yl w (qn cd) (λ_=>cd):=λda n ks os h=>by
 rcases h with ⟨k,hk,rfl⟩ | rfl
 ·rw [qaV]
  exact qcr (F:=G7 oI) (qrU _ (I7 _) (by rw [w0];exact hk)) (G3 _) da n cd
 ·exact qcr (F:=G7 eI) (is:=[wK (at0 os 2)]) qpB rfl da n cd
theorem zL {w:T3}:yl w (yB []) id:=λda n ks os h=>by
 rcases h with ⟨k,hk,rfl⟩ | rfl
 ·rw [qaV]
  exact qf7 (F:=G7 oI) (qrT _ (I7 _) (by rw [w0];exact hk)) (G3 _) da n
 ·exact qf7 (F:=G7 eI) (is:=[wK (at0 os 2)]) qpy rfl da n
theorem qme {w:T3} (os:List Obj):VC w 1 (uP [.x] os):=qcr (F:=oxI) (is:=[wK (at0 os 2)]) qpA rfl _ _ _
theorem qrV {w:T3} (k:Nat) (hk:k≤15) (os:List Obj):VC w 1 (uP (F2 k .o) os):=jJ _ _ _ _ os (.inl ⟨k,hk,rfl⟩)
noncomputable def appVq (h:Int) (its:List IT):List (T1×T1):=[(.bool (decide (jp h its>15)), .bool false),(.bool (decide (jp h its≥2 ^ 63)), .bool false),(.bool (decide (jp h its<0)), .bool false)]
theorem qkn (h:Int) (i:I3) (l:List IT):jp h (oI i::l)=jp (h+1) l:=rfl
theorem qkp (h:Int) (i:I3) (l:List IT):jp h (eI i::l)=jp (h+0) l:=rfl
theorem qko (h:Int):jp h []=h:=rfl
theorem qlX {h:Int} {its:List IT} (h0:0≤jp h its) (h1:jp h its≤15):∀p∈appVq h its,p.1=p.2:=by
 intro p hp
 unfold appVq at hp
 rcases E2.mp hp with rfl | hp
 ·show Value.bool _=Value.bool false
  rw [decide_eq_false (by omega)]
 rcases E2.mp hp with rfl | hp
 ·show Value.bool _=Value.bool false
  rw [decide_eq_false (by omega)]
 rcases E2.mp hp with rfl | hp
 ·show Value.bool _=Value.bool false
  rw [decide_eq_false (by omega)]
 ·cases hp
noncomputable def strVq (h:Int) (its:List IT):List (T1×T1):=[(.bool (h==0), .bool false),(.bool (h==0), .bool false),(.bool (decide (jp h its>0)), .bool true),(.bool (decide (jp h its≥2 ^ 63)), .bool false),(.bool (decide (jp h its<0)), .bool false)]
theorem qd2 {h:Int} {its:List IT} (hh:0<h) (h0:0<jp h its) (h1:jp h its≤100):∀p∈strVq h its,p.1=p.2:=by
 intro p hp
 unfold strVq at hp
 rcases E2.mp hp with rfl | hp
 ·show Value.bool _=Value.bool false
  rw [beq_false_of_ne (by omega)]
 rcases E2.mp hp with rfl | hp
 ·show Value.bool _=Value.bool false
  rw [beq_false_of_ne (by omega)]
 rcases E2.mp hp with rfl | hp
 ·show Value.bool _=Value.bool true
  rw [decide_eq_true (by omega)]
 rcases E2.mp hp with rfl | hp
 ·show Value.bool _=Value.bool false
  rw [decide_eq_false (by omega)]
 rcases E2.mp hp with rfl | hp
 ·show Value.bool _=Value.bool false
  rw [decide_eq_false (by omega)]
 ·cases hp
noncomputable def qpW:List Nat:=(hx 0x10080c3ae4860f20009d1112018f210410008d0131f10005d1484e07d00889e06daf0673e3123ae31528e30d28e303010030c13e33030001d110011111100220116f03d2f11102d5fff00d)
theorem qs0 (h:Int) (th t1 t2 t3:U1):RunOk w (qkN w.params h th t1 t2 t3) 0 627 [] [1,0,3,5,4] qpW [] [] (λ_ _ _ _=>[]) (λa N t0 _=>[N+1,N+0,N+3,N+5,N+4,t0+6,t0+8,t0+12,t0+14,t0+16,t0+23,t0+10,t0+20]):=λN t0 gN a x y z=>by
 kernel_rfl
theorem yX (h:Int) (th t1 t2 t3:U1):VC w 2 (qkN w.params h th t1 t2 t3) :=
 j3 0 627 [1,0,3,5,4] qpW [] [] (λ_ _ _ _=>[]) (λa N t0 _=>[N+1,N+0,N+3,N+5,N+4,t0+6,t0+8,t0+12,t0+14,t0+16,t0+23,t0+10,t0+20]) (by decide) (λ_=>rfl) (λ_=>rfl) (by decide) (by decide) B0 (λ_ _ _ _=>(λ_ h=>nomatch h)) λads hl hok=>by
   match ads,hl with
   | [],_ =>
    exact qs0 h th t1 t2 t3
noncomputable def qrE (k:Nat):List Nat:=[0,0,k+6,k+6,k+6,k+6,k+6,k+6,0,k+6,1,0,0,0,1,0,0,0,1,1,0,2,3,0,0,0,3,0,0,0,3,0,0,0,0,3,4,k+6,k+6,0,0,0,k+7,k+7,k+7,k+7,k+7,k+7,0,k+7,3,0,0,0,3,0,0,0,3,0,0,0,3,4,k+7,k+7,3,0,3,3,3,0,0,k+6,1,0,0,0,1,0,0,0,1,1,0,2,3,0,0,0,0,k+6,1,0,0,0,1,0,0,0,1,1,0,2]
noncomputable def qmj (k:Nat):List Nat:=[0,0,k+8,k+8,k+8,k+8,k+8,k+8,0,k+8,1,0,0,0,1,0,0,0,1,1,0,2,4,0,0,0,4,0,0,0,4,0,0,0,0,4,5,k+8,k+8,0,0,0,k+9,k+9,k+9,k+9,k+9,k+9,0,k+9,4,0,0,0,4,0,0,0,4,0,0,0,4,5,k+9,k+9,4,0,4,4,4,0,0,k+8,1,0,0,0,1,0,0,0,1,1,0,2,4,0,0,0,0,k+8,1,0,0,0,1,0,0,0,1,1,0,2,k+8,1,0,0,0,1,0,0,0,1,1,0,2,k+11,k+11,k+11,k+11,k+11,k+11,k+11,k+8,k+8,0,0,k+8,1,0,0,0,1,0,0,0,1,1,0,2,4,0,0,0,4,0,0,0,4,0,0,0,0,4,5,0,0,0,k+12,k+12,0,0,0,0,0,0,k+12,0,0,k+13,k+13,k+13,0,4,4,0,k+13,k+13,k+13,k+13,k+13,k+13,k+13,k+13,k+13,k+13,k+13,k+13,0,0,4,0,4,0,k+14,k+14,k+14,4,k+15,k+15,k+15,k+15,k+15,k+15,k+15,k+15,k+15,k+15,k+16,k+16,k+16,k+16,k+16,k+16,k+16,k+16,k+16,k+16,k+8,k+8,k+8,k+8,1,0,0,0,1,0,0,0,1,1,0,2,k+8,4,0,0,0,4,0,4,0,0,0,4,0,4,k+10,k+10,k+10,k+10,k+10,k+8,k+8,k+8,k+8,k+8,k+8,1,0,0,0,1,0,0,0,1,1,0,2,4,0,0,0,4,0,0,0,4,0,0,0,0,4,5,k+8,0,0,0,0,k+17,k+17,k+17,k+17,0,k+17,k+17,4,0,0,0,4,0,4,0,0,0,4,0,k+18,k+18,k+18,k+18,k+18,4,k+17,k+17,k+17,k+17,4,0,4,0,0,0,4,0,k+21,k+21,k+21,k+21,k+21,k+20,k+20,4,4,4,4,k+17,k+8,k+8,k+8,1,0,0,0,1,0,0,0,1,1,0,2,3,3,3,3,0,0,k+8,1,0,0,0,1,0,0,0,1,1,0,2,4,0,0,0,0,3,3,3,3,k+8,1,0,0,0,1,0,0,0,1,1,0,2,4,0,0,0,4,0,0,0,4,0,0,0,0,4,5,k+8,0,0,0,0,k+22,k+22,k+22,k+22,0,k+22,k+22,k+22,4,0,4,0,0,0,4,0,k+23,k+23,k+23,k+23,k+23,k+19,k+19,4,4,4,4,k+22,4,0,0,0,4,0,4,0,4,0,0,0,4,0,5,5,5]
noncomputable def qmb (k:Nat):List Nat:=[0,0,k+8,k+8,k+8,k+8,0,k+8,1,0,0,0,1,0,0,0,1,0,0,0,0,1,2,0,0,0,k+9,k+9,0,k+9,1,0,0,0,1,0,0,0,1,1,0,2,4,0,0,0,4,0,0,0,4,0,0,0,0,4,5,0,0,0,k+10,k+10,0,k+10,4,0,0,0,4,0,0,0,4,0,0,0,0,4,5,0,0,0,k+11,k+11,0,0,0,0,0,0,k+11,0,0,k+12,k+12,k+12,0,4,4,0,k+12,k+12,k+12,k+12,k+12,k+12,k+12,k+12,k+12,k+12,k+12,k+12,0,0,4,0,4,0,k+13,k+13,k+13,4,0,0,0,0,0,k+10,0,0,k+14,k+14,k+14,0,4,4,0,k+14,k+14,k+14,k+14,k+14,k+14,k+14,k+14,k+14,k+14,k+14,k+14,0,0,4,0,4,0,k+15,k+15,k+15,4,0,4,4,0,0,4,4,4,4,k+9,k+9,k+9,k+7,k+16,k+7,k+7,k+16,k+7,k+16,k+9,1,0,0,0,1,0,0,0,1,1,0,2,4,0,0,0,0,0,0,4,0,4,0,0,0,0,0,0,4,4,0,5,0,k+9,k+7,k+7,k+7,k+18,k+18,k+18,k+18,k+18,k+17,0,k+17,k+17,0,0,k+19,k+19,k+19,k+19,k+19,k+19,0,k+19,4,0,0,0,4,0,0,0,4,0,0,0,4,5,k+19,k+19,4,0,4,4,4,0,0,k+9,1,0,0,0,1,0,0,0,1,1,0,2,4,0,0,0,0,k+9,1,0,0,0,1,0,0,0,1,1,0,2,4,0,0,0,4,0,0,0,4,0,0,0,0,4,5,0,0,0,k+21,k+21,0,k+21,4,0,0,0,0,0,0,4,0,4,0,0,0,4,4,0,5,k+9,1,0,0,0,1,0,0,0,1,1,0,2,3,3,3,3,0,0,k+9,1,0,0,0,1,0,0,0,1,1,0,2,4,0,0,0,0,3,3,3,3,k+9,1,0,0,0,1,0,0,0,1,1,0,2,4,0,0,0,4,0,0,0,4,0,0,0,0,4,5,0,0,0,0,k+22,k+22,k+22,k+22,0,k+22,k+22,k+22,k+22,k+22,4,0,4,0,0,0,4,0,k+24,k+24,k+24,k+24,k+24,k+23,k+23,4,4,4,4,k+22,4,0,0,0,4,0,4,0,4,0,0,0,4,0,5,5,5,k+8,k+8,1,0,0,0,1,0,0,0,1,1,0,2,3,3]
noncomputable def ql9 (k:Nat):List Nat:=[0,0,k+8,k+8,k+8,k+8,0,k+8,1,0,0,0,1,0,0,0,1,0,0,0,0,1,2,0,0,0,k+9,k+9,0,k+9,1,0,0,0,1,0,0,0,1,1,0,2,4,0,0,0,4,0,0,0,4,0,0,0,0,4,5,0,0,0,k+10,k+10,0,k+10,4,0,0,0,4,0,0,0,4,0,0,0,0,4,5,0,0,0,k+11,k+11,0,0,0,0,0,0,k+11,0,0,k+12,k+12,k+12,0,4,4,0,k+12,k+12,k+12,k+12,k+12,k+12,k+12,k+12,k+12,k+12,k+12,k+12,0,0,4,0,4,0,k+13,k+13,k+13,4,0,0,0,0,0,k+10,0,0,k+14,k+14,k+14,0,4,4,0,k+14,k+14,k+14,k+14,k+14,k+14,k+14,k+14,k+14,k+14,k+14,k+14,0,0,4,0,4,0,k+15,k+15,k+15,4,0,4,4,0,0,4,4,4,4,k+9,k+9,k+9,k+7,k+16,k+7,k+7,k+16,k+7,k+16,k+9,1,0,0,0,1,0,0,0,1,1,0,2,4,0,0,0,0,0,0,4,0,4,0,0,0,0,0,0,4,4,0,5,0,k+9,k+7,k+7,k+7,k+18,k+18,k+18,k+18,k+18,k+17,0,k+17,k+17,0,0,k+19,k+19,k+19,k+19,k+19,k+19,0,k+19,4,0,0,0,4,0,0,0,4,0,0,0,4,5,k+19,k+19,4,0,4,4,4,0,0,k+9,1,0,0,0,1,0,0,0,1,1,0,2,4,0,0,0,0,k+9,1,0,0,0,1,0,0,0,1,1,0,2,4,0,0,0,4,0,0,0,4,0,0,0,0,4,5,0,0,0,k+21,k+21,0,k+21,4,0,0,0,0,0,0,4,0,4,0,0,0,4,4,0,5,k+21,4,0,0,0,4,0,0,0,4,0,0,0,0,0,0,k+21,4,0,0,0,0,k+9,1,0,0,0,1,0,0,0,1,1,0,2,3,3,3,3,0,0,k+9,1,0,0,0,1,0,0,0,1,1,0,2,4,0,0,0,0,3,3,3,3,k+9,1,0,0,0,1,0,0,0,1,1,0,2,4,0,0,0,4,0,0,0,4,0,0,0,0,4,5,0,0,0,0,k+22,k+22,k+22,k+22,0,k+22,k+22,k+22,k+22,k+22,4,0,4,0,0,0,4,0,k+24,k+24,k+24,k+24,k+24,k+23,k+23,4,4,4,4,k+22,4,0,0,0,4,0,4,0,4,0,0,0,4,0,5,5,5,k+8,k+8,1,0,0,0,1,0,0,0,1,1,0,2,3,3]
noncomputable def AppR (w:T3) (k:Nat):Prop:=∀r ln tk h th cd n t u a0 a1 a2 a3,Cur k λis:List I3=>Cur k λbs:List Nat=>RunOk w (qrF w.params r ln tk h th cd n (is.map oI) t u) (k+5) 387 (a0::a1::a2::a3::194::bs) [k+7] (qrE k) [oF,oF,oF] [(cX 9 (λ_=>qA h (F2 (k+1) .o)) ([2,3,4]++(G8 k).map (· + 5)++[k+7]))] (λ_ _ _ _=>appVq h (is.map oI++[oI ⟨0,t,u⟩])) (λa N t0 _=>[N+2])
noncomputable def ShutR (w:T3) (k:Nat):Prop:=∀r ln tk th cd n tb f t u a0 a1 a2 a3 a4,Cur k λis:List I3=>Cur k λbs:List Nat=>RunOk w (qgM w.params r ln tk ((15-k:Nat):Int) th cd n tb f (is.map oI) t u) (k+7) (1061+k) (a0::a1::a2::a3::a4::194::201::bs) [k+9] (qmj k) [] [(cX 9 (λ_=>qA ((15-k:Nat):Int) (F2 k .o++[.x])) ([3,4,5]++(G8 k).map (· + 7)++[k+9])),(cX 64 (λ_=>wu tb f (F2 k .o)) ([3,6]++(G8 k).map (· + 7)))] (λ_ _ _ _=>[]) (λa N t0 _=>[N+2,a.c 2 3,ln+1,a.c 2 1+3,n+min (k+1) 3,a.c 2 4])
noncomputable def StraR (w:T3) (k:Nat):Prop:=∀r ln tk th h cd n tb f u a0 a1 a2 a3 a4,Cur k λis:List I3=>Cur k λbs:List Nat=>RunOk w (wN w.params r [] ln tk h th cd n tb (λν=>qn (f (ν 7))) (is.map oI) (λν=>[.str ⟨⟨yd (is.map oI)⟩⟩ (ν 8)]) (yd (is.map oI)) u) (k+7) (1011+k) (a0::a1::a2::a3::a4::194::201::bs) [] (qmb k) [(2, .bool false),oF,oT,oF,oF] [(cX 49 (λ_=>qA h (F2 k .o)) ([3,4,5]++(G8 (k-1)).map (· + 7)++[k+19])),(cX 11 (λ_=>wu tb f (F2 k .o)) ([3,6]++(G8 (k-1)).map (· + 7)++[k+19]))] (λ_ _ _ _=>strVq h (is.map oI)) (λa N t0 _=>[a.c 3 3,ln+1,a.c 3 1+4,n+3,a.c 3 4,a.c 3 3])
noncomputable def StrhR (w:T3) (k:Nat):Prop:=∀r ln tk th cd n tb f u a0 a1 a2 a3 a4,Cur k λis:List I3=>Cur k λbs:List Nat=>RunOk w (wN w.params r [] ln tk 0 th cd n tb (λν=>qn (f (ν 7))) (is.map oI) (λν=>[.str ⟨⟨yd (is.map oI)⟩⟩ (ν 8)]) (yd (is.map oI)) u) (k+7) (1065+k) (a0::a1::a2::a3::a4::194::201::bs) [] (ql9 k) [] [(cX 49 (λ_=>qA 0 (F2 k .o)) ([3,4,5]++(G8 (k-1)).map (· + 7)++[k+19])),(cX 6 (λ_=>qA 0 (F2 k .o)) ([3,4,5]++(G8 (k-1)).map (· + 7)++[k+19])),(cX 4 (λ_=>wu tb f (F2 k .o)) ([3,6]++(G8 (k-1)).map (· + 7)++[k+19])),(cX 10 (λ_=>uP (F2 k .o)) ([3,6]++(G8 (k-1)).map (· + 7)++[k+19]))] (λ_ _ _ _=>[]) (λa N t0 _=>[a.c 5 3,ln+1,a.c 5 1+4,n+3,a.c 4 4,a.c 5 3])
noncomputable def strbH:List Nat:=(hx 0x10a80a50e8009d005061ae068be4140f3018d1f19d061be23065ae0f17d0f270d73e5510083fe550f50f250e5de20f03d60a4ae660f222000b28e33331010978e07f7e16d002610f10a0ce0a12e440f2490ae5e97010013203710babe7112f14d0101412d1f13d0075105d100775e1110637e602d0995e501d21110111d08d00b0f10101220010d1425e31000fd0161f22000ed1112018f21041000dd0112f100cd002310f10c22e0bd00205d0d22e04d3100816e31100ad00202d100604e1100201d110f09d000d)
noncomputable def qiG:List Nat:=(hx 0x107ffe410cc9e112f2dd0030550e50e80a50e8008d005061ae0675e4140f302bd1f2cd061be2306cde0f2ad0115de550a29e550f50f260e47e20f03d60934e36631010978e07c9e29d09c9e0a0ce0a12e440f2490ab7e97010013203710b7de7112f27d0101425d1f26d00751a1010f0c9be6b0a9beb21110124d23d00920022d18dee21d0adee20d15dee1fd00260dc8e63100cbce1ed00250ca6e35505d0711e11064ce70aaae601d1f08d1dd0111f095ee11f1bd0f0ad0f1010122001ad1425e310019d0161f220018d1875e17d0a75e16d00230d16e311015d0020ed6e90ad6e901d08d14d2fc12d2f10d6f0fd2000ed1112018f21041000dd0112f100cd00270d77e54100a4fe03043f0bd3090de333410092ae40f2460a40e64010013203410b1ce4112f09d0030505d10f1080ce04d02d101001100201d112f08d000d)
noncomputable def qiB:List Nat:=(hx 0x10a80a50e8008d005061ae0675e4140f3016d1f17d061be2306cde0f15d0115de550a29e550f50f260e47e20f03d60934e36631010978e07c9e14d002610f10a0ce0a12e440f2490ab7e97010013203710b7de7112f12d0101410d1f11d00751a100747e111062ee6b0967e6b2111010fd0ed0092000dd1112018f21041000cd0112f100bd002310f10c22e0ad00205d0d22e04d3100816e311009d00202d100604e1100201d110f08d000d)
noncomputable def ql8:List Nat:=(hx 0x1003d80950e38008d005061ae0690e4140f3015d1f16d061be230670e0f14d0f2610f10a0ce0a12e440f2490ab7e97010013203710b7de7112f12d0101410d1f11d00751a100747e111062ee6b0967e6b2111010fd0ed0092000dd1112018f21041000cd0112f100bd002310f10c22e0ad00205d0d22e04d3100816e311009d00202d100604e1100201d110f08d000d)
noncomputable def strbS (k:Nat):U2:=⟨⟨F2 k 111++[47,32,120]⟩⟩
noncomputable def strbQ (k:Nat):List (T1×T1):=[(.bool (decide ((strbS k).length>sizeLine)), .bool false),(.str (Builtin.Str.glued ⟨#[47]⟩ [oS k,⟨#[32,120]⟩]) 0, .str (strbS k) 0),(.bool (zA ⟨#[47]⟩ [oS k,⟨#[32,120]⟩]), .bool false)]
noncomputable def qma (k:Nat):Bool := !decide ((strbS k).length>sizeLine)&&((Builtin.Str.glued ⟨#[47]⟩ [oS k,⟨#[32,120]⟩]==strbS k) && !zA ⟨#[47]⟩ [oS k,⟨#[32,120]⟩])
theorem qkH {k:Nat} (h:k≤15):∀p∈strbQ k,p.1=p.2:=by
 have z:(G8 16).all qma=true:=by decide +kernel
 have y:=O7.mp z k (P6.mpr (Nat.lt_succ_of_le h))
 simp only [qma,J8,L7,beq_iff_eq] at y
 obtain ⟨y1,y2,y3⟩:=y
 intro p hp
 simp only [strbQ,E2,F5,or_false] at hp
 rcases hp with rfl | rfl | rfl
 ·exact vb y1
 ·show Value.str _ 0=Value.str _ 0
  rw [y2]
 ·exact vb y3
noncomputable def qsQ (w:T3) (k:Nat):Prop:=∀r ln tk th cd n c tl i u a0 a1 a2 a3 a4 b0,RunOk w (rstrB w.params r k tl ln tk th cd n c i u) 8 1066 [a0,a1,a2,a3,a4,194,201,b0] [] strbH [(11, .bool false),(0, .str (strbS k) 0),oF] [(cX 49 (λ_=>qA 0 [.x]) [3,4,5,20]),(cX 6 (λ_=>qA 0 [.x]) [3,4,5,20]),(cX 4 (λ_=>uP [.x]) [3,6,20]),(cX 10 (λ_=>uP [.x]) [3,6,20])] (λ_ _ _ _=>strbQ k) (λa N t0 _=>[a.c 5 1+8,ln+1,a.c 5 1+4,n+3,a.c 5 3])
theorem qpE (r:RT) (ln:Nat) (tk th:U1) (cd n:Nat) (tb:Obj) (f:Nat→Nat) (t u:U1) (a0 a1 a2 a3 a4:Nat):RunOk w (qgM w.params r ln tk 15 th cd n tb f [] t u) 7 1776 [a0,a1,a2,a3,a4,194,201] [45] qiG [] [(cX 9 (λ_=>qA 15 [.x]) [3,4,5,9]),(cX 121 (λ_=>qA 15 [.e]) [3,4,5,39]),(cX 11 (λ_=>wu tb f [.e]) [3,6,39])] (λ_ _ _ _=>[]) (λa N t0 _=>[a.c 6 0+4,a.c 6 3,ln+1,a.c 6 1+4,n+5,a.c 6 4]):=λN t0 gN a x y z=>by
 kernel_rfl
theorem qpx (r:RT) (ln:Nat) (tk th:U1) (h:Int) (cd n:Nat) (tb:Obj) (f:Nat→Nat) (u:U1) (a0 a1 a2 a3 a4:Nat):RunOk w (wN w.params r [] ln tk h th cd n tb (λν=>qn (f (ν 7))) [] (λν=>[.str ⟨⟨yd []⟩⟩ (ν 8)]) (yd []) u) 7 942 [a0,a1,a2,a3,a4,194,201] [] qiB [(2, .bool false),oF,oT,oF,oF] [(cX 37 (λ_=>qA h [.e]) [3,4,5,18]),(cX 11 (λ_=>wu tb f [.e]) [3,6,18])] (λ_ _ _ _=>strVq h [eI ⟨0,0,0⟩]) (λa N t0 _=>[a.c 2 3,ln+1,a.c 2 1+4,n+2,a.c 2 4,a.c 2 3]):=λN t0 gN a x y z=>by
 kernel_rfl
theorem qrP (r:RT) (ln:Nat) (tk th:U1) (cd n:Nat) (tb:Obj) (u:U1) (a0 a1 a2 a3 a4:Nat):RunOk w (wN w.params r [] ln tk 0 th cd n tb (λ_=>tb) [] (λ_=>[]) [] u) 7 784 [a0,a1,a2,a3,a4,194,201] [] ql8 [] [(cX 37 (λ_=>qA 0 [.e]) [3,4,5,18])] (λ_ _ _ _=>[]) (λa N t0 _=>[a.c 1 1+10,ln+0,a.c 1 1+6,n+2]):=λN t0 gN a x y z=>by
 kernel_rfl
theorem z8:AppR w 0∧AppR w 1∧AppR w 2∧AppR w 3∧AppR w 4∧AppR w 5∧AppR w 6∧AppR w 7∧AppR w 8∧AppR w 9∧AppR w 10∧AppR w 11∧AppR w 12∧AppR w 13∧AppR w 14:=by
 refine ⟨?_,?_,?_,?_,?_,?_,?_,?_,?_,?_,?_,?_,?_,?_,?_⟩ <;> (repeat intro _) <;> kernel_rfl
theorem zJ:ShutR w 1∧ShutR w 2∧ShutR w 3∧ShutR w 4∧ShutR w 5∧ShutR w 6∧ShutR w 7∧ShutR w 8∧ShutR w 9∧ShutR w 10∧ShutR w 11∧ShutR w 12∧ShutR w 13∧ShutR w 14∧ShutR w 15:=by
 refine ⟨?_,?_,?_,?_,?_,?_,?_,?_,?_,?_,?_,?_,?_,?_,?_⟩ <;> (repeat intro _) <;> kernel_rfl
theorem wi:StraR w 1∧StraR w 2∧StraR w 3∧StraR w 4∧StraR w 5∧StraR w 6∧StraR w 7:=by
 refine ⟨?_,?_,?_,?_,?_,?_,?_⟩ <;> (repeat intro _) <;> kernel_rfl
theorem wg:StraR w 8∧StraR w 9∧StraR w 10∧StraR w 11∧StraR w 12∧StraR w 13∧StraR w 14:=by
 refine ⟨?_,?_,?_,?_,?_,?_,?_⟩ <;> (repeat intro _) <;> kernel_rfl
theorem wf:StrhR w 1∧StrhR w 2∧StrhR w 3∧StrhR w 4∧StrhR w 5∧StrhR w 6∧StrhR w 7:=by
 refine ⟨?_,?_,?_,?_,?_,?_,?_⟩ <;> (repeat intro _) <;> kernel_rfl
theorem we:StrhR w 8∧StrhR w 9∧StrhR w 10∧StrhR w 11∧StrhR w 12∧StrhR w 13∧StrhR w 14:=by
 refine ⟨?_,?_,?_,?_,?_,?_,?_⟩ <;> (repeat intro _) <;> kernel_rfl
theorem qrR (k:Nat):qsQ w k:=by
 repeat intro _
 kernel_rfl
theorem qtu:∀k,0≤k→k≤14→AppR w k
 | 0,h,_=>z8.1
 | 1,h,_=>z8.2.1
 | 2,h,_=>z8.2.2.1
 | 3,h,_=>z8.2.2.2.1
 | 4,h,_=>z8.2.2.2.2.1
 | 5,h,_=>z8.2.2.2.2.2.1
 | 6,h,_=>z8.2.2.2.2.2.2.1
 | 7,h,_=>z8.2.2.2.2.2.2.2.1
 | 8,h,_=>z8.2.2.2.2.2.2.2.2.1
 | 9,h,_=>z8.2.2.2.2.2.2.2.2.2.1
 | 10,h,_=>z8.2.2.2.2.2.2.2.2.2.2.1
 | 11,h,_=>z8.2.2.2.2.2.2.2.2.2.2.2.1
 | 12,h,_=>z8.2.2.2.2.2.2.2.2.2.2.2.2.1
 | 13,h,_=>z8.2.2.2.2.2.2.2.2.2.2.2.2.2.1
 | 14,h,_=>z8.2.2.2.2.2.2.2.2.2.2.2.2.2.2
 | k+15,_,h=>absurd h (by omega)
theorem qrY:∀k,1≤k→k≤15→ShutR w k
 | 0,h,_=>absurd h (by decide)
 | 1,h,_=>zJ.1
 | 2,h,_=>zJ.2.1
 | 3,h,_=>zJ.2.2.1
 | 4,h,_=>zJ.2.2.2.1
 | 5,h,_=>zJ.2.2.2.2.1
 | 6,h,_=>zJ.2.2.2.2.2.1
 | 7,h,_=>zJ.2.2.2.2.2.2.1
 | 8,h,_=>zJ.2.2.2.2.2.2.2.1
 | 9,h,_=>zJ.2.2.2.2.2.2.2.2.1
 | 10,h,_=>zJ.2.2.2.2.2.2.2.2.2.1
 | 11,h,_=>zJ.2.2.2.2.2.2.2.2.2.2.1
 | 12,h,_=>zJ.2.2.2.2.2.2.2.2.2.2.2.1
 | 13,h,_=>zJ.2.2.2.2.2.2.2.2.2.2.2.2.1
 | 14,h,_=>zJ.2.2.2.2.2.2.2.2.2.2.2.2.2.1
 | 15,h,_=>zJ.2.2.2.2.2.2.2.2.2.2.2.2.2.2
 | k+16,_,h=>absurd h (by omega)
theorem qrS:∀k,1≤k→k≤14→StraR w k
 | 0,h,_=>absurd h (by decide)
 | 1,h,_=>wi.1
 | 2,h,_=>wi.2.1
 | 3,h,_=>wi.2.2.1
 | 4,h,_=>wi.2.2.2.1
 | 5,h,_=>wi.2.2.2.2.1
 | 6,h,_=>wi.2.2.2.2.2.1
 | 7,h,_=>wi.2.2.2.2.2.2
 | 8,h,_=>wg.1
 | 9,h,_=>wg.2.1
 | 10,h,_=>wg.2.2.1
 | 11,h,_=>wg.2.2.2.1
 | 12,h,_=>wg.2.2.2.2.1
 | 13,h,_=>wg.2.2.2.2.2.1
 | 14,h,_=>wg.2.2.2.2.2.2
 | k+15,_,h=>absurd h (by omega)
theorem qrQ:∀k,1≤k→k≤14→StrhR w k
 | 0,h,_=>absurd h (by decide)
 | 1,h,_=>wf.1
 | 2,h,_=>wf.2.1
 | 3,h,_=>wf.2.2.1
 | 4,h,_=>wf.2.2.2.1
 | 5,h,_=>wf.2.2.2.2.1
 | 6,h,_=>wf.2.2.2.2.2.1
 | 7,h,_=>wf.2.2.2.2.2.2
 | 8,h,_=>we.1
 | 9,h,_=>we.2.1
 | 10,h,_=>we.2.2.1
 | 11,h,_=>we.2.2.2.1
 | 12,h,_=>we.2.2.2.2.1
 | 13,h,_=>we.2.2.2.2.2.1
 | 14,h,_=>we.2.2.2.2.2.2
 | k+15,_,h=>absurd h (by omega)
theorem qfE:∀(l:List IT) (i:IT) (h:Int),jp h (l++[i])=jp h l+itL i
 | [],_,_=>rfl
 | _::l,i,h=>qfE l i _
theorem qb2 (is:List I3) (m:Nat):((is.map oI).map itO).length+m=is.length+m:=by rw [G3,G3]
theorem js1 {k m:Nat} (h:m≤k):∀j∈[k],m≤j:=λj hj=>by
 rcases E2.mp hj with rfl | hj
 ·exact h
 ·cases hj
theorem qtv (r:RT) (ln:Nat) (tk:U1) (h:Int) (th:U1) (cd n:Nat) (is:List I3) (t u:U1) (h0:0≤h) (h1:h+is.length+1≤15):VC w 2 (qrF w.params r ln tk h th cd n (is.map oI) t u) :=
 j3 (is.length+5) 387 [is.length+7] (qrE is.length) [oF,oF,oF] [(cX 9 (λ_=>qA h (F2 (is.length+1) KI.o)) ([2,3,4]++(G8 is.length).map (· + 5)++[is.length+7]))] (λ_ _ _ _=>appVq h (is.map oI++[oI ⟨0,t,u⟩])) (λa N t0 _=>[N+2])
  (by decide) (λ_=>rfl) (λ_=>qb2 is 5) (F3.mpr ⟨(λh=>nomatch h),F8⟩) (js1 (by lia)) (qa (λ_ os=>qaT h0 (by lia) (by lia) os) B0)
  (λ_ _ _ _=>have e:jp h (is.map oI++[oI ⟨0,t,u⟩])=h+is.length+1:=by {rw [qfE,w2];rfl};qlX (by rw [e];lia) (by rw [e];lia)) <| qtA λa0 a1 a2 a3 a4 l hm hok=>by
   have e:a4=194:=hok _ (.head _)
   subst e
   exact qT (qT (qtu _ (I7 _) (by lia) r ln tk h th cd n t u a0 a1 a2 a3) is rfl) l hm
theorem qrZ (r:RT) (ln:Nat) (tk:U1) (h:Int) (th:U1) (cd n:Nat) (tb:Obj) (f:Nat→Nat) (is:List I3) (t u:U1) (hS:yl w tb f) (h0:0≤h) (h1:h+is.length=15):VC w 2 (qgM w.params r ln tk h th cd n tb f (is.map oI) t u):=by
 by_cases hk:is=[]
 ·subst hk
  have e:h=15:=by have h1:h+((0:Nat):Int)=15:=h1;lia
  subst e
  exact j3 7 1776 [45] qiG [] [(cX 9 (λ_=>qA 15 [KI.x]) [3,4,5,9]),(cX 121 (λ_=>qA 15 [.e]) [3,4,5,39]),(cX 11 (λ_=>wu tb f [.e]) [3,6,39])] (λ_ _ _ _=>[]) (λa N t0 _=>[a.c 6 0+4,a.c 6 3,ln+1,a.c 6 1+4,n+5,a.c 6 4]) (by decide) (λ_=>rfl) (λ_=>rfl) (by decide) (by decide)
   (qa (λ_ os=>yn _ _ _ _ _ _ _ (by decide) (by decide)) (qa (λ_ os=>qeR _ _ _ _ _ _ _ (by decide) (by decide)) (qa (λ_ os=>hS _ _ _ os (.inr rfl)) B0))) (λ_ _ _ _=>(λ_ h=>nomatch h)) <| qbE (k:=0) λa0 a1 a2 a3 a4 a5 a6 l hm hok=>by
    have e5:a5=194:=hok _ (.head _)
    have e6:a6=201:=hok _ (.tail _ (.head _))
    subst e5 e6
    rw [E5 hm]
    exact qpE r ln tk th cd n tb f t u a0 a1 a2 a3 a4
 ·have hp:1≤is.length:=N6.mpr hk
  have e:h=((15-is.length:Nat):Int):=by lia
  subst e
  exact j3 (is.length+7) (1061+is.length) [is.length+9] (qmj is.length) [] [(cX 9 (λ_=>qA ((15-is.length:Nat):Int) (F2 is.length KI.o++[KI.x])) ([3,4,5]++(G8 is.length).map (· + 7)++[is.length+9])),(cX 64 (λ_=>wu tb f (F2 is.length KI.o)) ([3,6]++(G8 is.length).map (· + 7)))] (λ_ _ _ _=>[]) (λa N t0 _=>[N+2,a.c 2 3,ln+1,a.c 2 1+3,n+min (is.length+1) 3,a.c 2 4])
   (by decide) (λ_=>rfl) (λ_=>qb2 is 7) (F3.mpr ⟨(λh=>nomatch h),F8⟩) (js1 (by lia)) (qa (λ_ os=>qnm (by lia) (by lia) (by lia) os) (qa (λ_ os=>hS _ _ _ os (.inl ⟨is.length,by lia,rfl⟩)) B0)) (λ_ _ _ _=>(λ_ h=>nomatch h)) <| qbE λa0 a1 a2 a3 a4 a5 a6 l hm hok=>by
    have e5:a5=194:=hok _ (.head _)
    have e6:a6=201:=hok _ (.tail _ (.head _))
    subst e5 e6
    exact qT (qT (qrY _ hp (by lia) r ln tk th cd n tb f t u a0 a1 a2 a3 a4) is rfl) l hm
theorem qpC (r:RT) (ln:Nat) (tk:U1) (h:Int) (th:U1) (cd n c:Nat) (is:List I3) (u:U1) (h0:0<h) (h1:h≤17) (hl:is.length≤14):VC w 2 (wN w.params r [] ln tk h th cd n (qn c) (λ_=>qn c) (is.map oI) (λν=>[.str ⟨⟨yd (is.map oI)⟩⟩ (ν 8)]) (yd (is.map oI)) u):=by
 have hS:yl w (qn c) (λ_=>c):=jJ c
 by_cases hk:is=[]
 ·subst hk
  exact j3 7 942 [] qiB [(2, .bool false),oF,oT,oF,oF] [(cX 37 (λ_=>qA h [.e]) [3,4,5,18]),(cX 11 (λ_=>wu (qn c) (λ_=>c) [.e]) [3,6,18])] (λ_ _ _ _=>strVq h [eI ⟨0,0,0⟩]) (λa N t0 _=>[a.c 2 3,ln+1,a.c 2 1+4,n+2,a.c 2 4,a.c 2 3]) (by decide) (λ_=>rfl) (λ_=>rfl) (by decide) (by decide)
   (qa (λ_ os=>qeR _ _ _ _ _ _ _ (by lia) (by lia)) (qa (λ_ os=>hS _ _ _ os (.inr rfl)) B0)) (λ_ _ _ _=>(qd2 h0 (by simp only [qkn,qkp,qko];lia) (by simp only [qkn,qkp,qko];lia))) <| qbE (k:=0) λa0 a1 a2 a3 a4 a5 a6 l hm hok=>by
    have e5:a5=194:=hok _ (.head _)
    have e6:a6=201:=hok _ (.tail _ (.head _))
    subst e5 e6
    rw [E5 hm]
    exact qpx r ln tk th h cd n (qn c) (λ_=>c) u a0 a1 a2 a3 a4
 ·have hp:1≤is.length:=N6.mpr hk
  exact j3 (is.length+7) (1011+is.length) [] (qmb is.length) [(2, .bool false),oF,oT,oF,oF] [(cX 49 (λ_=>qA h (F2 is.length KI.o)) ([3,4,5]++(G8 (is.length-1)).map (· + 7)++[is.length+19])),(cX 11 (λ_=>wu (qn c) (λ_=>c) (F2 is.length KI.o)) ([3,6]++(G8 (is.length-1)).map (· + 7)++[is.length+19]))] (λ_ _ _ _=>strVq h (is.map oI)) (λa N t0 _=>[a.c 3 3,ln+1,a.c 3 1+4,n+3,a.c 3 4,a.c 3 3])
   (by decide) (λ_=>rfl) (λ_=>qb2 is 7) F8 (λ_ h=>nomatch h) (qa (λ_ os=>qaT (by lia) (by lia) (by lia) os) (qa (λ_ os=>hS _ _ _ os (.inl ⟨is.length,by lia,rfl⟩)) B0)) (λ_ _ _ _=>qd2 h0 (by rw [w2];lia) (by rw [w2];lia)) <| qbE λa0 a1 a2 a3 a4 a5 a6 l hm hok=>by
    have e5:a5=194:=hok _ (.head _)
    have e6:a6=201:=hok _ (.tail _ (.head _))
    subst e5 e6
    exact qT (qT (qrS _ hp hl r ln tk th h cd n (qn c) (λ_=>c) u a0 a1 a2 a3 a4) is rfl) l hm
theorem qpD (r:RT) (ln:Nat) (tk:U1) (th:U1) (cd n c:Nat) (is:List I3) (u:U1) (hk:is≠[]) (hl:is.length≤14):VC w 2 (wN w.params r [] ln tk 0 th cd n (qn c) (λ_=>qn c) (is.map oI) (λν=>[.str ⟨⟨yd (is.map oI)⟩⟩ (ν 8)]) (yd (is.map oI)) u):=by
 have hS:yl w (qn c) (λ_=>c):=jJ c
 have hp:1≤is.length:=N6.mpr hk
 exact j3 (is.length+7) (1065+is.length) [] (ql9 is.length) [] [(cX 49 (λ_=>qA 0 (F2 is.length KI.o)) ([3,4,5]++(G8 (is.length-1)).map (· + 7)++[is.length+19])),(cX 6 (λ_=>qA 0 (F2 is.length KI.o)) ([3,4,5]++(G8 (is.length-1)).map (· + 7)++[is.length+19])),(cX 4 (λ_=>wu (qn c) (λ_=>c) (F2 is.length KI.o)) ([3,6]++(G8 (is.length-1)).map (· + 7)++[is.length+19])),(cX 10 (λ_=>uP (F2 is.length KI.o)) ([3,6]++(G8 (is.length-1)).map (· + 7)++[is.length+19]))] (λ_ _ _ _=>[]) (λa N t0 _=>[a.c 5 3,ln+1,a.c 5 1+4,n+3,a.c 4 4,a.c 5 3])
  (by decide) (λ_=>rfl) (λ_=>qb2 is 7) F8 (λ_ h=>nomatch h) (qa (λ_ os=>qaT (by lia) (by lia) (by lia) os) (qa (λ_ os=>qaT (by lia) (by lia) (by lia) os) (qa (λ_ os=>hS _ _ _ os (.inl ⟨is.length,by lia,rfl⟩)) (qa (λ_=>qrV is.length (by lia)) B0)))) (λ_ _ _ _=>(λ_ h=>nomatch h)) <| qbE λa0 a1 a2 a3 a4 a5 a6 l hm hok=>by
   have e5:a5=194:=hok _ (.head _)
   have e6:a6=201:=hok _ (.tail _ (.head _))
   subst e5 e6
   exact qT (qT (qrQ _ hp hl r ln tk th cd n (qn c) (λ_=>c) u a0 a1 a2 a3 a4) is rfl) l hm
theorem qrO (r:RT) (ln:Nat) (tk th:U1) (cd n:Nat) (tb:Obj) (u:U1):VC w 2 (wN w.params r [] ln tk 0 th cd n tb (λ_=>tb) [] (λ_=>[]) [] u) :=
 j3 7 784 [] ql8 [] [(cX 37 (λ_=>qA 0 [.e]) [3,4,5,18])] (λ_ _ _ _=>[]) (λa N t0 _=>[a.c 1 1+10,ln+0,a.c 1 1+6,n+2]) (by decide) (λ_=>rfl) (λ_=>rfl) (by decide) (by decide) (qa (λ_ os=>qeR _ _ _ _ _ _ _ (by decide) (by decide)) B0) (λ_ _ _ _=>(λ_ h=>nomatch h)) <| qbE (k:=0) λa0 a1 a2 a3 a4 a5 a6 l hm hok=>by
  have e5:a5=194:=hok _ (.head _)
  have e6:a6=201:=hok _ (.tail _ (.head _))
  subst e5 e6
  rw [E5 hm]
  exact qrP r ln tk th cd n tb u a0 a1 a2 a3 a4
theorem zY {r:RT} {tl:U1} {ln:Nat} {tk th:U1} {cd n c:Nat} {i:I3} {u:U1} (k:Nat) (hk:k≤15):VC w 2 (rstrB w.params r k tl ln tk th cd n c i u) :=
 j3 8 1066 [] strbH [(11, .bool false),(0, .str (strbS k) 0),oF] [(cX 49 (λ_=>qA 0 [.x]) [3,4,5,20]),(cX 6 (λ_=>qA 0 [.x]) [3,4,5,20]),(cX 4 (λ_=>uP [.x]) [3,6,20]),(cX 10 (λ_=>uP [.x]) [3,6,20])] (λ_ _ _ _=>strbQ k) (λa N t0 _=>[a.c 5 1+8,ln+1,a.c 5 1+4,n+3,a.c 5 3]) (by decide) (λ_=>rfl) (λ_=>rfl) F8 (λ_ h=>nomatch h)
  (qa (λ_ os=>yn _ _ _ _ _ _ _ (by decide) (by decide)) (qa (λ_ os=>yn _ _ _ _ _ _ _ (by decide) (by decide)) (qa (λ_=>qme) (qa (λ_=>qme) B0)))) (λ_ _ _ _=>qkH hk) <| qbE (k:=1) λa0 a1 a2 a3 a4 a5 a6 l hm hok=>by
  have e5:a5=194:=hok _ (.head _)
  have e6:a6=201:=hok _ (.tail _ (.head _))
  subst e5 e6
  obtain ⟨b,rfl⟩:=List.length_eq_one_iff.mp hm
  exact qrR k r ln tk th cd n c tl i u a0 a1 a2 a3 a4 b
theorem qcl:∀is:List I3,yd (is.map oI)=F2 is.length 111
 | []=>rfl
 | i::is=>by
  show 111::yd (is.map oI)=_
  rw [qcl is];rfl
theorem vM (is:List I3):(is.map oI).map itO=is.map λi=>itO (oI i):=by rw [List.map_map];rfl
theorem qqw {ads:List Nat} {k:Nat} {bs:List Nat} (h:ads.length=5) (hk:bs.length=k):zK (ads++bs) 5 k=bs.map .ref:=by
 have z:=qbj (ads:=ads) (bs:=bs)
 rwa [h,hk] at z
theorem qqv {ads:List Nat} {k:Nat} {bs:List Nat} (h:ads.length=7) (hk:bs.length=k):zK (ads++bs) 7 k=bs.map .ref:=by
 have z:=qbj (ads:=ads) (bs:=bs)
 rwa [h,hk] at z
theorem wY {r:RT} {ln:Nat} {tk:U1} {h:Int} {th:U1} {cd n:Nat} {bs:List Nat} {is:List I3} {t u:U1} (hb:bs.length=is.length) (h0:0≤h) (h1:h+is.length+1≤15):VC w 2 (qfC w.params r ln tk h th cd n bs is t u):=by
 refine yS (qtv r ln tk h th cd n is t u h0 h1) (m:=5) (bs:=bs) (objs:=is.map λi=>itO (oI i)) ?_
 have e5:∀ads:List Nat,ads.length=5→∀i,i<5→adF (ads++bs) 0 i=adF ads 0 i:=λads h i hi=>yR (by lia)
 refine ⟨by rw [G3];exact hb,λ_=>rfl,λ_ _=>rfl,λads h => ?_,λads h => ?_,λads h => ?_,λads ν h => ?_,λads ν h=>rfl,λads ν h=>rfl,rfl,rfl⟩
 ·show Code.call _ _=Code.call _ _
  rw [e5 ads h 0 (by decide)]
 ·show [_]=[_]
  rw [e5 ads h 4 (by decide)]
 ·show yH _ _ _ _ _ _ _ _ _ _ _=yH _ _ _ _ _ _ _ _ _ _ _++_
  unfold yH
  rw [e5 ads h 1 (by decide),e5 ads h 2 (by decide),e5 ads h 3 (by decide),G3,qqw h hb,vM]
  rfl
 ·show yH _ _ _ _ _ _ _ _ _ _ _=yH _ _ _ _ _ _ _ _ _ _ _++_
  unfold yH
  rw [e5 ads h 1 (by decide),e5 ads h 2 (by decide),e5 ads h 3 (by decide),G3,qqw h hb,vM]
  rfl
theorem qfJ {r:RT} {ln:Nat} {tk:U1} {h:Int} {th:U1} {cd n:Nat} {tb:Obj} {f:Nat→Nat} {bs:List Nat} {is:List I3} {t u:U1} (hS:yl w tb f) (hb:bs.length=is.length) (h0:0≤h) (h1:h+is.length=15):VC w 2 (qrX w.params r ln tk h th cd n tb f bs is t u):=by
 refine yS (qrZ r ln tk h th cd n tb f is t u hS h0 h1) (m:=7) (bs:=bs) (objs:=is.map λi=>itO (oI i)) ?_
 have e5:∀ads:List Nat,ads.length=7→∀i,i<7→adF (ads++bs) 0 i=adF ads 0 i:=λads h i hi=>yR (by lia)
 refine ⟨by rw [G3];exact hb,λ_=>rfl,λ_ _=>rfl,λads h => ?_,λads h => ?_,λads h => ?_,λads ν h => ?_,λads ν h=>rfl,λads ν h=>rfl,rfl,rfl⟩
 ·show Code.call _ _=Code.call _ _
  rw [e5 ads h 0 (by decide)]
 ·show [_,_]=[_,_]
  rw [e5 ads h 5 (by decide),e5 ads h 6 (by decide)]
 ·show zh _ _ _ _ _ _ _ _ _ _ _ _ _=zh _ _ _ _ _ _ _ _ _ _ _ _ _++_
  unfold zh
  rw [e5 ads h 1 (by decide),e5 ads h 2 (by decide),e5 ads h 3 (by decide),e5 ads h 4 (by decide),G3,qqv h hb,vM]
  rfl
 ·show zh _ _ _ _ _ _ _ _ _ _ _ _ _=zh _ _ _ _ _ _ _ _ _ _ _ _ _++_
  unfold zh
  rw [e5 ads h 1 (by decide),e5 ads h 2 (by decide),e5 ads h 3 (by decide),e5 ads h 4 (by decide),vM,qcl]
  rfl
theorem qbh {r:RT} {ln:Nat} {tk:U1} {h:Int} {th:U1} {cd n c:Nat} {bs:List Nat} {is:List I3} {u:U1} {L:(Nat→Nat)→List T1} (hb:bs.length=is.length) (hL:∀ν,L ν=qbU h is.length (ν 8)) :
  qmG (wN w.params r [] ln tk h th cd n (qn c) (λ_=>qn c) (is.map oI) L (yd (is.map oI)) u) (qml w.params r ln tk h th cd n c bs is u) 7 bs (is.map λi=>itO (oI i)):=by
 have e5:∀ads:List Nat,ads.length=7→∀i,i<7→adF (ads++bs) 0 i=adF ads 0 i:=λads h i hi=>yR (by lia)
 refine ⟨by rw [G3];exact hb,λ_=>rfl,λ_ _=>rfl,λads h => ?_,λads h => ?_,λads h => ?_,λads ν h => ?_,λads ν h => ?_,λads ν h=>rfl,rfl,rfl⟩
 ·show Code.call _ _=Code.call _ _
  rw [e5 ads h 0 (by decide)]
 ·show [_,_]=[_,_]
  rw [e5 ads h 5 (by decide),e5 ads h 6 (by decide)]
 ·show zh _ _ _ _ _ _ _ _ _ _ _ _ _=zh _ _ _ _ _ _ _ _ _ _ _ _ _++_
  unfold zh
  rw [e5 ads h 1 (by decide),e5 ads h 2 (by decide),e5 ads h 3 (by decide),e5 ads h 4 (by decide),G3,qqv h hb,vM]
  rfl
 ·show zh _ _ _ _ _ _ _ _ _ _ _ _ _=zh _ _ _ _ _ _ _ _ _ _ _ _ _++_
  unfold zh
  rw [e5 ads h 1 (by decide),e5 ads h 2 (by decide),e5 ads h 3 (by decide),e5 ads h 4 (by decide),vM,hL]
  rfl
 ·show vH.done _=vH.done _
  rw [qcl]
  rfl
theorem qa4 {h:Int} {k:Nat} {t:U1} (hk:¬(h=0∧k=0)):qbU h k t=[.str (oS k) t]:=if_neg hk
theorem qfM {r:RT} {ln:Nat} {tk:U1} {h:Int} {th:U1} {cd n c:Nat} {bs:List Nat} {is:List I3} {u:U1} (hb:bs.length=is.length) (h0:0≤h) (h1:h≤17) (hl:is.length≤14):VC w 2 (qml w.params r ln tk h th cd n c bs is u):=by
 by_cases hp:0<h
 ·refine yS (qpC r ln tk h th cd n c is u hp h1 hl) (qbh hb λν => ?_)
  rw [qa4 (by lia),qcl]
  rfl
 ·have e:h=0:=by lia
  subst e
  cases is with
  | nil =>
   refine yS (qrO r ln tk th cd n (qn c) u) (qbh (is:=[]) hb λν=>rfl)
  | cons i is =>
   refine yS (qpD r ln tk th cd n c (i::is) u (by simp) hl) (qbh hb λν => ?_)
   rw [qa4 (by simp),qcl]
   rfl
noncomputable def fdK (p:T4):T5:=qqY (ktOf p 272)
noncomputable def qgH (p:T4) (m:MS) (vs:List T1) (tv:Nat) (x y:RS) (a16 a17:Nat):List CH:=[⟨39,some (λc _=>qfC p x.r a16 x.tk x.h x.th m.cd x.n x.bs x.is (qe c 1) (qe c 2),[6,7,8,9,14]),[0]⟩,⟨36,some (λ_ os=>qeT (hk p jL) x.tk x.h x.th (x.n+1) m.cd x.bs x.is (wK (at0 os 3)),[8,9,14,28]),[0]⟩,⟨16,some (λ_ _=>qk4 (hk p jL) y.tk y.h y.th y.n m.cd y.bs y.is,[12,13,14]),[1]⟩,(cX 12 (λc _=>yK vs tv (qfA c)) [2]),⟨0,none,[]⟩]
noncomputable def qgI (p:T4) (m:MS) (vs:List T1) (tv:Nat) (x y:RS) (a16 a17:Nat):List CH:=[⟨54,some (λc _=>qfC p y.r a17 y.tk y.h y.th m.cd y.n y.bs y.is (qe c 1) (qe c 2),[10,11,12,13,14]),[1]⟩,⟨21,some (λ_ _=>qk4 (hk p jL) x.tk x.h x.th x.n m.cd x.bs x.is,[8,9,14]),[0]⟩,⟨16,some (λ_ os=>qeT (hk p jL) y.tk y.h y.th (y.n+1) m.cd y.bs y.is (wK (at0 os 3)),[12,13,14,32]),[1]⟩,(cX 12 (λc _=>yK vs tv (qfA c)) [2]),⟨0,none,[]⟩]
noncomputable def qgG (p:T4) (m:MS) (vs:List T1) (tv:Nat) (x y:RS) (a16 a17:Nat):List CH:=[⟨39,some (λc _=>qfC p x.r a16 x.tk x.h x.th m.cd x.n x.bs x.is (qe c 1) (qe c 2),[6,7,8,9,14]),[0]⟩,⟨15,some (λc _=>qfC p y.r a17 y.tk y.h y.th m.cd y.n y.bs y.is (qe c 1) (qe c 2),[10,11,12,13,14]),[1]⟩,⟨21,some (λ_ os=>qeT (hk p jL) x.tk x.h x.th (x.n+1) m.cd x.bs x.is (wK (at0 os 3)),[8,9,14,28]),[0]⟩,⟨16,some (λ_ os=>qeT (hk p jL) y.tk y.h y.th (y.n+1) m.cd y.bs y.is (wK (at0 os 3)),[12,13,14,33]),[1]⟩,(cX 12 (λc _=>yK vs tv (qfA c)) [2]),⟨0,none,[]⟩]
noncomputable def tvq (k1 k2:Nat) (vs:List T1) (s0 s1 l0 l1:Int) (n0 n1:Int):List (T1×T1):=[qGe n1 (2 ^ 63) false,qLt n1 0 false,qGe n0 (2 ^ 63) false,qLt n0 0 false,qS k2,qS k1,qLt ((vs.length:Nat):Int) 16 true,qGe ((vs.length:Nat):Int) (2 ^ 63) false,qGe l1 s1 true,qGe l0 s0 true]
noncomputable def ql4:List Nat:=(hx 0x120adbe730f03d02d00b092cd0aaaea0f20dd0f4de5093ee3531201d0f2ad1029d0020cd0d4de0bd104090190f80f25d0f209d30a0fe3301410081de420010f28d1027d000e7ce207d1000d026d0112f24d004523d0201a0f90f1a0f41f01d21d1558e1fd0f1ed0e58e05d070beb0106d0fc0858e7208d10f110615ec07d2fa1cd0a07e2f111f1ad0f19d3f51f20160f50f17d0150f40f116d8f18d15d00614d0006d04020003d02d000d0a06e211f05d11f04d01d)
noncomputable def ql6:List Nat:=(hx 0x120aece730f03d02d00b092cd0af7ea0f20dd0f4de5093ee3531201d0f2ad1029d0020cd0d4de0bd104090190f80f25d0f209d30a0fe3301410081de420010f28d1027d00208d0c35e207d108026d0112f24d004823d020106d0fc089fe720cd10f110615e00d0bd2fa20d1547e1ed0f1dd0c47e0a0be801a0f90f1a0f41fa1cd0a07e2f111f1ad0f19d3f51f20160f50f17d0150f40f116d8f18d15d00614d0006d04020003d02d000d0a06e211f05d11f04d01d)
noncomputable def ql2:List Nat:=(hx 0x120aece730f03d02d00b092dd01a0f90fa0f20dd0f4de5093ee3531201d0f2bd102ad0020cd0d4de0bd104090190f80f26d0f209d30a0fe3301410081de420010f29d1028d000e8de207d108027d0112f25d004824d021158e0cd0d58e0bd2f01d21d1558e1fd0f1ed0e58e05d070beb0106d0fc0858e7208d10f110615ec07d2fa1cd0a07e2f111f1ad0f19d3f51f20160f50f17d0150f40f116d8f18d15d00614d0006d04020003d02d000d0a06e211f05d11f04d01d)
theorem qiz (m:MS) (k6 k7:U1) (rv:Nat) (sv:Int) (svt:U1) (vs:List T1) (tv:Nat) (l0:Int) (s0:U1) (l1:Int) (s1:U1) (lv:Nat) (tb:Obj) (x y:RS) (a0 a1 a2 a3 a4 a5 a6 a7 a8 a9 a10 a11 a12 a13 a15 a16 a17 a18:Nat):RunOk w (yW w.params (fdK w.params) true false m ⟨false,k6,k7,rv,sv,svt⟩ vs tv ⟨l0,s0,l1,s1,lv⟩ tb x y) 19 830 [a0,a1,a2,a3,a4,a5,a6,a7,a8,a9,a10,a11,a12,a13,194,a15,a16,a17,a18] [36,28] ql4 [oT,oT,(1, .bool false),oT,oT,(2, .bool true),(1, .bool false),oF,oF,oF] (qgH w.params m vs tv x y a16 a17) (λa N t0 gN=>tvq (N+5) (a.c 0 0+0) vs 1 0 l0 l1 (rl true x) (rl false y)) (λa N t0 gN=>[a.c 0 0+7,a.c 0 3,0,a.c 3 1+7,a.c 1 1+1,a.c 3 1+1,t0+7,t0+8,2,t0+10,t0+11]):=λN t0 gN a x' y' z'=>by
 kernel_rfl
theorem qkD (m:MS) (k6 k7:U1) (rv:Nat) (sv:Int) (svt:U1) (vs:List T1) (tv:Nat) (l0:Int) (s0:U1) (l1:Int) (s1:U1) (lv:Nat) (tb:Obj) (x y:RS) (a0 a1 a2 a3 a4 a5 a6 a7 a8 a9 a10 a11 a12 a13 a15 a16 a17 a18:Nat):RunOk w (yW w.params (fdK w.params) true false m ⟨true,k6,k7,rv,sv,svt⟩ vs tv ⟨l0,s0,l1,s1,lv⟩ tb x y) 19 830 [a0,a1,a2,a3,a4,a5,a6,a7,a8,a9,a10,a11,a12,a13,194,a15,a16,a17,a18] [36,28] ql4 [oT,oT,(1, .bool false),oT,oT,(2, .bool true),(1, .bool false),oF,oF,oF] (qgH w.params m vs tv x y a16 a17) (λa N t0 gN=>tvq (N+5) (a.c 0 0+0) vs 1 0 l0 l1 (rl true x) (rl false y)) (λa N t0 gN=>[a.c 0 0+7,a.c 0 3,0,a.c 3 1+7,a.c 1 1+1,a.c 3 1+1,0,0,2,t0+10,t0+11]):=λN t0 gN a x' y' z'=>by
 kernel_rfl
theorem qiA (m:MS) (k6 k7:U1) (rv:Nat) (sv:Int) (svt:U1) (vs:List T1) (tv:Nat) (l0:Int) (s0:U1) (l1:Int) (s1:U1) (lv:Nat) (tb:Obj) (x y:RS) (a0 a1 a2 a3 a4 a5 a6 a7 a8 a9 a10 a11 a12 a13 a15 a16 a17 a18:Nat):RunOk w (yW w.params (fdK w.params) false true m ⟨false,k6,k7,rv,sv,svt⟩ vs tv ⟨l0,s0,l1,s1,lv⟩ tb x y) 19 830 [a0,a1,a2,a3,a4,a5,a6,a7,a8,a9,a10,a11,a12,a13,194,a15,a16,a17,a18] [36,32] ql6 [oT,oT,(1, .bool false),oT,oT,(1, .bool true),(2, .bool false),oF,oF,oF] (qgI w.params m vs tv x y a16 a17) (λa N t0 gN=>tvq (N+5) (N+9) vs 0 1 l0 l1 (rl false x) (rl true y)) (λa N t0 gN=>[a.c 0 0+3,a.c 0 3,0,a.c 3 1+7,a.c 1 1+1,a.c 3 1+1,t0+7,t0+8,2,0,0,t0+13,t0+14]):=λN t0 gN a x' y' z'=>by
 kernel_rfl
theorem qkE (m:MS) (k6 k7:U1) (rv:Nat) (sv:Int) (svt:U1) (vs:List T1) (tv:Nat) (l0:Int) (s0:U1) (l1:Int) (s1:U1) (lv:Nat) (tb:Obj) (x y:RS) (a0 a1 a2 a3 a4 a5 a6 a7 a8 a9 a10 a11 a12 a13 a15 a16 a17 a18:Nat):RunOk w (yW w.params (fdK w.params) false true m ⟨true,k6,k7,rv,sv,svt⟩ vs tv ⟨l0,s0,l1,s1,lv⟩ tb x y) 19 830 [a0,a1,a2,a3,a4,a5,a6,a7,a8,a9,a10,a11,a12,a13,194,a15,a16,a17,a18] [36,32] ql6 [oT,oT,(1, .bool false),oT,oT,(1, .bool true),(2, .bool false),oF,oF,oF] (qgI w.params m vs tv x y a16 a17) (λa N t0 gN=>tvq (N+5) (N+9) vs 0 1 l0 l1 (rl false x) (rl true y)) (λa N t0 gN=>[a.c 0 0+3,a.c 0 3,0,a.c 3 1+7,a.c 1 1+1,a.c 3 1+1,0,0,2,0,0,t0+13,t0+14]):=λN t0 gN a x' y' z'=>by
 kernel_rfl
theorem qiy (m:MS) (k6 k7:U1) (rv:Nat) (sv:Int) (svt:U1) (vs:List T1) (tv:Nat) (l0:Int) (s0:U1) (l1:Int) (s1:U1) (lv:Nat) (tb:Obj) (x y:RS) (a0 a1 a2 a3 a4 a5 a6 a7 a8 a9 a10 a11 a12 a13 a15 a16 a17 a18:Nat):RunOk w (yW w.params (fdK w.params) true true m ⟨false,k6,k7,rv,sv,svt⟩ vs tv ⟨l0,s0,l1,s1,lv⟩ tb x y) 19 857 [a0,a1,a2,a3,a4,a5,a6,a7,a8,a9,a10,a11,a12,a13,194,a15,a16,a17,a18] [37,28,33] ql2 [oT,oT,(1, .bool false),oT,oT,(2, .bool true),(2, .bool false),oF,oF,oF] (qgG w.params m vs tv x y a16 a17) (λa N t0 gN=>tvq (N+5) (a.c 0 0+0) vs 1 1 l0 l1 (rl true x) (rl true y)) (λa N t0 gN=>[a.c 1 0+3,a.c 0 3,a.c 1 3,a.c 4 1+7,a.c 2 1+1,a.c 4 1+1,t0+7,t0+8,2,t0+10,t0+11,a.c 0 1+3,a.c 0 1+4]):=λN t0 gN a x' y' z'=>by
 kernel_rfl
theorem qkC (m:MS) (k6 k7:U1) (rv:Nat) (sv:Int) (svt:U1) (vs:List T1) (tv:Nat) (l0:Int) (s0:U1) (l1:Int) (s1:U1) (lv:Nat) (tb:Obj) (x y:RS) (a0 a1 a2 a3 a4 a5 a6 a7 a8 a9 a10 a11 a12 a13 a15 a16 a17 a18:Nat):RunOk w (yW w.params (fdK w.params) true true m ⟨true,k6,k7,rv,sv,svt⟩ vs tv ⟨l0,s0,l1,s1,lv⟩ tb x y) 19 857 [a0,a1,a2,a3,a4,a5,a6,a7,a8,a9,a10,a11,a12,a13,194,a15,a16,a17,a18] [37,28,33] ql2 [oT,oT,(1, .bool false),oT,oT,(2, .bool true),(2, .bool false),oF,oF,oF] (qgG w.params m vs tv x y a16 a17) (λa N t0 gN=>tvq (N+5) (a.c 0 0+0) vs 1 1 l0 l1 (rl true x) (rl true y)) (λa N t0 gN=>[a.c 1 0+3,a.c 0 3,a.c 1 3,a.c 4 1+7,a.c 2 1+1,a.c 4 1+1,0,0,2,t0+10,t0+11,a.c 0 1+3,a.c 0 1+4]):=λN t0 gN a x' y' z'=>by
 kernel_rfl
structure wc (b0 b1:Bool) (vs:List T1) (l:LV) (x y:RS):Prop where
 bx:x.bs.length=x.is.length
 by_:y.bs.length=y.is.length
 hx:0≤x.h
 hy:0≤y.h
 rx:x.h+x.is.length+stI b0≤15
 ry:y.h+y.is.length+stI b1≤15
 lv:vs.length<16
 l0:stI b0≤l.l0
 l1:stI b1≤l.l1
theorem vI {b0 b1:Bool} {vs:List T1} {l:LV} {x y:RS} {k1 k2:Nat} (ok:wc b0 b1 vs l x y):∀p∈tvq k1 k2 vs (stI b0) (stI b1) l.l0 l.l1 (rl b0 x) (rl b1 y),p.1=p.2:=by
 have h1:=ok.rx
 have h2:=ok.ry
 have h3:=ok.hx
 have h4:=ok.hy
 have h5:=ok.lv
 have h6:=ok.l0
 have h7:=ok.l1
 have e0:rl b0 x=x.h+x.is.length+stI b0:=by cases b0 <;> simp only [rl,stI] <;> lia
 have e1:rl b1 y=y.h+y.is.length+stI b1:=by cases b1 <;> simp only [rl,stI] <;> lia
 have g0:0≤stI b0:=by cases b0 <;> decide
 have g1:0≤stI b1:=by cases b1 <;> decide
 rw [e0,e1]
 intro p hp
 simp only [tvq,E2,F5,or_false] at hp
 rcases hp with rfl | rfl | rfl | rfl | rfl | rfl | rfl | rfl | rfl | rfl
 ·exact vb (decide_eq_false (by lia))
 ·exact vb (decide_eq_false (by lia))
 ·exact vb (decide_eq_false (by lia))
 ·exact vb (decide_eq_false (by lia))
 ·exact vb (by simp)
 ·exact vb (by simp)
 ·exact vb (decide_eq_true (by lia))
 ·exact vb (decide_eq_false (by lia))
 ·exact vb (decide_eq_true (by lia))
 ·exact vb (decide_eq_true (by lia))
theorem ql5 {m:MS} {vs:List T1} {tv:Nat} {l:LV} {x y:RS} (ok:wc true false vs l x y) (a16 a17:Nat):AllValid prog w (ktOf w.params) 2 (qgH w.params m vs tv x y a16 a17):=qa (λ_ _=>wY ok.bx ok.hx (by have:=ok.rx;simp only [stI] at this;lia)) (qa (λ_ _=>(wO ok.bx ok.hx (by have:=ok.rx;simp only [stI] at this;lia) (by have:=ok.rx;have:=ok.hx;simp only [stI] at *;lia)).up) (qa (λ_ _=>(qb3 ok.by_ ok.hy (by have:=ok.ry;simp only [stI] at this;lia) (by have:=ok.ry;have:=ok.hy;simp only [stI] at *;lia)).up) (qa (λ_ _=>zv (by have:=ok.lv;lia)) (qK B0))))
theorem qmL (m:MS) (e:LT) (vs:List T1) (tv:Nat) (l:LV) (tb:Obj) (x y:RS) (ok:wc true false vs l x y):VC w 3 (yW w.params (fdK w.params) true false m e vs tv l tb x y):=by
 obtain ⟨l0,s0,l1,s1,lv⟩:=l
 obtain ⟨late,k6,k7,rv,sv,svt⟩:=e
 refine qu 19 λads hl hok => ?_
 obtain ⟨a0,a1,a2,a3,a4,a5,a6,a7,a8,a9,a10,a11,a12,a13,a14,a15,a16,a17,a18,rfl⟩:=vz hl
 have q:a14=194:=hok _ (.head _)
 subst q
 cases late
 ·exact (C2 (qiz m k6 k7 rv sv svt vs tv l0 s0 l1 s1 lv tb x y a0 a1 a2 a3 a4 a5 a6 a7 a8 a9 a10 a11 a12 a13 a15 a16 a17 a18) (ql5 ok a16 a17) (λ_ _ _ _=>vI ok))
 ·exact (C2 (qkD m k6 k7 rv sv svt vs tv l0 s0 l1 s1 lv tb x y a0 a1 a2 a3 a4 a5 a6 a7 a8 a9 a10 a11 a12 a13 a15 a16 a17 a18) (ql5 ok a16 a17) (λ_ _ _ _=>vI ok))
theorem ql7 {m:MS} {vs:List T1} {tv:Nat} {l:LV} {x y:RS} (ok:wc false true vs l x y) (a16 a17:Nat):AllValid prog w (ktOf w.params) 2 (qgI w.params m vs tv x y a16 a17):=qa (λ_ _=>wY ok.by_ ok.hy (by have:=ok.ry;simp only [stI] at this;lia)) (qa (λ_ _=>(qb3 ok.bx ok.hx (by have:=ok.rx;simp only [stI] at this;lia) (by have:=ok.rx;have:=ok.hx;simp only [stI] at *;lia)).up) (qa (λ_ _=>(wO ok.by_ ok.hy (by have:=ok.ry;simp only [stI] at this;lia) (by have:=ok.ry;have:=ok.hy;simp only [stI] at *;lia)).up) (qa (λ_ _=>zv (by have:=ok.lv;lia)) (qK B0))))
theorem qmM (m:MS) (e:LT) (vs:List T1) (tv:Nat) (l:LV) (tb:Obj) (x y:RS) (ok:wc false true vs l x y):VC w 3 (yW w.params (fdK w.params) false true m e vs tv l tb x y):=by
 obtain ⟨l0,s0,l1,s1,lv⟩:=l
 obtain ⟨late,k6,k7,rv,sv,svt⟩:=e
 refine qu 19 λads hl hok => ?_
 obtain ⟨a0,a1,a2,a3,a4,a5,a6,a7,a8,a9,a10,a11,a12,a13,a14,a15,a16,a17,a18,rfl⟩:=vz hl
 have q:a14=194:=hok _ (.head _)
 subst q
 cases late
 ·exact (C2 (qiA m k6 k7 rv sv svt vs tv l0 s0 l1 s1 lv tb x y a0 a1 a2 a3 a4 a5 a6 a7 a8 a9 a10 a11 a12 a13 a15 a16 a17 a18) (ql7 ok a16 a17) (λ_ _ _ _=>vI ok))
 ·exact (C2 (qkE m k6 k7 rv sv svt vs tv l0 s0 l1 s1 lv tb x y a0 a1 a2 a3 a4 a5 a6 a7 a8 a9 a10 a11 a12 a13 a15 a16 a17 a18) (ql7 ok a16 a17) (λ_ _ _ _=>vI ok))
theorem ql3 {m:MS} {vs:List T1} {tv:Nat} {l:LV} {x y:RS} (ok:wc true true vs l x y) (a16 a17:Nat):AllValid prog w (ktOf w.params) 2 (qgG w.params m vs tv x y a16 a17):=qa (λ_ _=>wY ok.bx ok.hx (by have:=ok.rx;simp only [stI] at this;lia)) (qa (λ_ _=>wY ok.by_ ok.hy (by have:=ok.ry;simp only [stI] at this;lia)) (qa (λ_ _=>(wO ok.bx ok.hx (by have:=ok.rx;simp only [stI] at this;lia) (by have:=ok.rx;have:=ok.hx;simp only [stI] at *;lia)).up) (qa (λ_ _=>(wO ok.by_ ok.hy (by have:=ok.ry;simp only [stI] at this;lia) (by have:=ok.ry;have:=ok.hy;simp only [stI] at *;lia)).up) (qa (λ_ _=>zv (by have:=ok.lv;lia)) (qK B0)))))
theorem qmK (m:MS) (e:LT) (vs:List T1) (tv:Nat) (l:LV) (tb:Obj) (x y:RS) (ok:wc true true vs l x y):VC w 3 (yW w.params (fdK w.params) true true m e vs tv l tb x y):=by
 obtain ⟨l0,s0,l1,s1,lv⟩:=l
 obtain ⟨late,k6,k7,rv,sv,svt⟩:=e
 refine qu 19 λads hl hok => ?_
 obtain ⟨a0,a1,a2,a3,a4,a5,a6,a7,a8,a9,a10,a11,a12,a13,a14,a15,a16,a17,a18,rfl⟩:=vz hl
 have q:a14=194:=hok _ (.head _)
 subst q
 cases late
 ·exact (C2 (qiy m k6 k7 rv sv svt vs tv l0 s0 l1 s1 lv tb x y a0 a1 a2 a3 a4 a5 a6 a7 a8 a9 a10 a11 a12 a13 a15 a16 a17 a18) (ql3 ok a16 a17) (λ_ _ _ _=>vI ok))
 ·exact (C2 (qkC m k6 k7 rv sv svt vs tv l0 s0 l1 s1 lv tb x y a0 a1 a2 a3 a4 a5 a6 a7 a8 a9 a10 a11 a12 a13 a15 a16 a17 a18) (ql3 ok a16 a17) (λ_ _ _ _=>vI ok))
theorem qq0 (late:Bool) (m:MS) (k6 k7:U1) (rv:Nat) (sv:Int) (svt:U1) (vs:List T1) (tv:Nat) (l0:Int) (t0':U1) (l1:Int) (t1':U1) (lv:Nat) (s0 s1:Int) (tb:Obj) (x y:RS) (a0 a1 a2 a3 a4 a5 a6 a7 a8 a9 a10 a11 a12 a13 a14 a15 a16 a17 a18:Nat):RunOk w (qdQ w.params (fdK w.params) m ⟨late,k6,k7,rv,sv,svt⟩ vs tv ⟨l0,t0',l1,t1',lv⟩ s0 s1 tb x y) 19 37 [a0,a1,a2,a3,a4,a5,a6,a7,a8,a9,a10,a11,a12,a13,a14,a15,a16,a17,a18] [] [1,4,4,4,4,4,1,5,5,5,5,5] [oF] [] (λ_ _ _ _=>[qGe l0 s0 false]) (λ_ _ _ _=>[]):=λN t0 gN a x' y' z'=>by
 cases late <;> kernel_rfl
theorem qqZ (late:Bool) (m:MS) (k6 k7:U1) (rv:Nat) (sv:Int) (svt:U1) (vs:List T1) (tv:Nat) (l0:Int) (t0':U1) (l1:Int) (t1':U1) (lv:Nat) (s0 s1:Int) (tb:Obj) (x y:RS) (a0 a1 a2 a3 a4 a5 a6 a7 a8 a9 a10 a11 a12 a13 a14 a15 a16 a17 a18:Nat):RunOk w (qdQ w.params (fdK w.params) m ⟨late,k6,k7,rv,sv,svt⟩ vs tv ⟨l0,t0',l1,t1',lv⟩ s0 s1 tb x y) 19 63 [a0,a1,a2,a3,a4,a5,a6,a7,a8,a9,a10,a11,a12,a13,a14,a15,a16,a17,a18] [] (hx 0x10a06e211f05d11f04d01d) [oT,oF] [] (λ_ _ _ _=>[qGe l1 s1 false,qGe l0 s0 true]) (λ_ _ _ _=>[]):=λN t0 gN a x' y' z'=>by
 cases late <;> kernel_rfl
theorem qcf (m:MS) (e:LT) (vs:List T1) (tv:Nat) (l:LV) (s0 s1:Int) (tb:Obj) (x y:RS) (h:l.l0<s0∨l.l1<s1):VC w 3 (qdQ w.params (fdK w.params) m e vs tv l s0 s1 tb x y):=by
 obtain ⟨l0,q0,l1,q1,lv⟩:=l
 obtain ⟨late,k6,k7,rv,sv,svt⟩:=e
 refine qu 19 λads hl hok => ?_
 obtain ⟨a0,a1,a2,a3,a4,a5,a6,a7,a8,a9,a10,a11,a12,a13,a14,a15,a16,a17,a18,rfl⟩:=vz hl
 by_cases h0:l0<s0
 ·refine (C2 (qq0 late m k6 k7 rv sv svt vs tv l0 q0 l1 q1 lv s0 s1 tb x y a0 a1 a2 a3 a4 a5 a6 a7 a8 a9 a10 a11 a12 a13 a14 a15 a16 a17 a18) B0 (λ_ _ _ _ p hp => ?_))
  rcases E2.mp hp with rfl | hp
  ·exact vb (decide_eq_false (by lia))
  ·cases hp
 ·refine (C2 (qqZ late m k6 k7 rv sv svt vs tv l0 q0 l1 q1 lv s0 s1 tb x y a0 a1 a2 a3 a4 a5 a6 a7 a8 a9 a10 a11 a12 a13 a14 a15 a16 a17 a18) B0 (λ_ _ _ _ p hp => ?_))
  have h1:l1<s1:=h.resolve_left h0
  rcases E2.mp hp with rfl | hp
  ·exact vb (decide_eq_false (by lia))
  rcases E2.mp hp with rfl | hp
  ·exact vb (decide_eq_true (by lia))
  ·cases hp
theorem qhN {bs:List Nat} {is:List I3} {a:Nat} {i:I3} (hl:bs.length=is.length):keyOf (bs++[a]) (is++[i])=keyOf bs is++[(a,itO (oI i))]:=by
 unfold keyOf
 rw [L2,List.zip_append (by rw [G3];exact hl)]
 rfl
theorem qk9 {kt:Nat→Option Obj} {ads ads':List Nat} {h h':Heap} {bs:List Nat} {is:List I3} {a:Nat} {i:I3} (hl:bs.length=is.length) (K:KeyOk kt ads h (keyOf bs is)) (kp:∀b o,h.get? b=some o→b∉ads→h'.get? b=some o) (hs:∀a∈ads',a∈ads∨h.objs.size≤a)
  (ha:h'.get? a=some (itO (oI i))) (hsz:h.objs.size≤a) (hn:a∉ads') (hk:kt a=none):KeyOk kt ads' h' (keyOf (bs++[a]) (is++[i])):=by
 rw [qhN hl]
 have Z:=ur K kp hs
 refine ⟨?_,λp hp => ?_⟩
 ·rw [L2]
  refine J2.mpr ⟨Z.1,by simp,λb hb c hc e => ?_⟩
  obtain ⟨p,hp,rfl⟩:=I6.mp hb
  have hl:p.1<h.objs.size:=I0 (K.2 p hp).1
  have hc:c=a:=by simpa using hc
  rw [e,hc] at hl
  exact absurd hl (L9.mpr hsz)
 ·rcases I1.mp hp with hp | hp
  ·exact Z.2 p hp
  ·have hp:p=(a,itO (oI i)):=by simpa using hp
   subst hp
   exact ⟨ha,hn,hk⟩
noncomputable def put3 (ads:List Nat) (a:Nat):List Nat:=match ads with
 | a0::a1::a2::_::r=>a0::a1::a2::a::r
 | l=>l
noncomputable def yL:List Int→List U1→List T1
 | [],_=>[]
 | i::is,ts=>match ts with
  | []=>[]
  | t::ts => .int i t::yL is ts
noncomputable def toldF (l0 l1 s0 s1:Int):Nat→List Int
 | 0=>[]
 | n+1=>(16*(l0-s0)+(l1-s1))::toldF (l0-s0) (l1-s1) s0 s1 n
theorem wC (l0 l1 s0 s1:Int):∀n,(toldF l0 l1 s0 s1 n).length=n
 | 0=>rfl
 | n+1=>congrArg G6 (wC _ _ _ _ n)
theorem qc9:∀(is:List Int) (ts:List U1),is.length=ts.length→(yL is ts).length=is.length
 | [],_,_=>rfl
 | _::is,_::ts,h=>congrArg G6 (qc9 is ts (G6.inj h))
 | _::_,[],h=>nomatch h
noncomputable def stN:Bool→Nat→Nat
 | true,n=>n
 | false,_=>0
structure LEd where
 e:LT
 ts:List U1
 q0:U1
 q1:U1
 lv:Nat
 bx:List Nat
 ix:List I3
 by_:List Nat
 iy:List I3
 a:Nat
structure LEp (w:T3) (m:MS) (tb:Obj) (b0 b1:Bool) (e:LT) (vs:List T1) (tv:Nat) (l:LV) (x y:RS) (ads:List Nat) (n:Nat) (s s':T2) (e':LT) (ts:List U1) (q0 q1:U1) (lv:Nat) (bx:List Nat) (ix:List I3) (by_:List Nat) (iy:List I3) (a:Nat):Prop where
 f1:e'.late=(e.late||decide (0<n))
 f2:n=0→e'=e∧a=adF ads 0 3∧q0=l.t0∧q1=l.t1∧lv=l.n
 f3:ts.length=n
 f4:bx.length=stN b0 n
 f5:ix.length=stN b0 n
 f6:by_.length=stN b1 n
 f7:iy.length=stN b1 n
 f8:0<n→s.heap.objs.size≤a∧s'.heap.get? (adF ads 0 3)=some l.ob∧e'.rv=adF ads 0 10∧e'.sv=stI b1∧e'.st=m.st1
 f9:a∉bx
 f10:a∉by_
 f11:∀b∈bx,s.heap.objs.size≤b
 f12:∀b∈by_,s.heap.objs.size≤b
 f13:KeyOk (ktOf w.params) (put3 ads a) s'.heap (keyOf (x.bs++bx) (x.is++ix))
 f14:KeyOk (ktOf w.params) (put3 ads a) s'.heap (keyOf (y.bs++by_) (y.is++iy))
 f15:Objs s'.heap (put3 ads a) (jq w.params m e' (vs++yL (toldF l.l0 l.l1 (stI b0) (stI b1) n) ts) (tv+n) ⟨l.l0-n*stI b0,q0,l.l1-n*stI b1,q1,lv⟩ (stI b0) (stI b1) tb {x with n:=x.n+stN b0 n,bs:=x.bs++bx,is:=x.is++ix} {y with n:=y.n+stN b1 n,bs:=y.bs++by_,is:=y.is++iy} (put3 ads a))
structure LoopEnd (w:T3) (m:MS) (tb:Obj) (b0 b1:Bool) (e:LT) (vs:List T1) (tv:Nat) (l:LV) (x y:RS) (ads:List Nat) (n:Nat) (s s':T2):Prop where
 kept:zp s s' ads
 ex:∃d:LEd,LEp w m tb b0 b1 e vs tv l x y ads n s s' d.e d.ts d.q0 d.q1 d.lv d.bx d.ix d.by_ d.iy d.a
theorem D6 {m:MS} {tb:Obj} {b0 b1:Bool} {e:LT} {vs:List T1} {tv:Nat} {l:LV} {x y:RS} {ads:List Nat} {n:Nat} {s s':T2} (e':LT) (ts:List U1) (q0 q1:U1) (lv:Nat) (bx:List Nat) (ix:List I3) (by_:List Nat) (iy:List I3) (a:Nat) (k:zp s s' ads)
  (h:LEp w m tb b0 b1 e vs tv l x y ads n s s' e' ts q0 q1 lv bx ix by_ iy a):LoopEnd w m tb b0 b1 e vs tv l x y ads n s s':=⟨k,⟨e',ts,q0,q1,lv,bx,ix,by_,iy,a⟩,h⟩
theorem LoopEnd.elim {m:MS} {tb:Obj} {b0 b1:Bool} {e:LT} {vs:List T1} {tv:Nat} {l:LV} {x y:RS} {ads:List Nat} {n:Nat} {s s':T2} {P:Prop} (L:LoopEnd w m tb b0 b1 e vs tv l x y ads n s s')
  (h:∀(e':LT) (ts:List U1) (q0 q1:U1) (lv:Nat) (bx:List Nat) (ix:List I3) (by_:List Nat) (iy:List I3) (a:Nat),zp s s' ads→LEp w m tb b0 b1 e vs tv l x y ads n s s' e' ts q0 q1 lv bx ix by_ iy a→P):P:=by
 obtain ⟨k,d,F⟩:=L
 exact h _ _ _ _ _ _ _ _ _ _ k F
theorem qrN {b0 b1:Bool} (hb:(b0||b1)=true) (m:MS) (e:LT) (vs:List T1) (tv:Nat) (l:LV) (tb:Obj) (x y:RS) (ok:wc b0 b1 vs l x y):VC w 3 (yW w.params (fdK w.params) b0 b1 m e vs tv l tb x y):=by
 match b0,b1,hb,ok with
 | true,false,_,ok=>exact qmL m e vs tv l tb x y ok
 | false,true,_,ok=>exact qmM m e vs tv l tb x y ok
 | true,true,_,ok=>exact qmK m e vs tv l tb x y ok
noncomputable def RS.more (x:RS) (b:Bool) (n:Nat) (bx:List Nat) (ix:List I3):RS:={x with n:=x.n+stN b n,bs:=x.bs++bx,is:=x.is++ix}
theorem ul {ads:List Nat} {a b:Nat} (h:b∈put3 ads a):b∈ads∨b=a:=by
 unfold put3 at h
 split at h
 ·simp only [E2] at h ⊢
  rcases h with h | h | h | h | h
  ·exact .inl (.inl h)
  ·exact .inl (.inr (.inl h))
  ·exact .inl (.inr (.inr (.inl h)))
  ·exact .inr h
  ·exact .inl (.inr (.inr (.inr (.inr h))))
 ·exact .inl h
theorem qtw {bs:List Nat} {a:Nat}:(bs++[a]).map Value.ref=bs.map Value.ref++[.ref a]:=by simp
structure qks (w:T3) (A:Around) (ads:List Nat) (s:T2):Prop where
 h0:A.handled=none
 hd:A.depth+130*3<U0
 hu:A.units+260*3<cLine
 hkt:∀a o,ktOf w.params a=some o→s.heap.get? a=some o
 nd:ads.Nodup
 off:∀a∈ads,ktOf w.params a=none
 bare:∀x∈s.gens,x.bare=true
theorem qev {b:Bool} {x:RS} {s s1:T2} {ads:List Nat} {a i:Nat} {t u:U1} {os:List Obj} (bx:x.bs.length=x.is.length) (kx:KeyOk (ktOf w.params) ads s.heap (keyOf x.bs x.is)) (kp:∀b o,s.heap.get? b=some o→b∉ads→s1.heap.get? b=some o)
  (hs:∀c∈put3 ads a,c∈ads∨s.heap.objs.size≤c) (hkt:∀a o,ktOf w.params a=some o→s.heap.get? a=some o) (hob:Objs s.heap ads os) (f:b=true→s1.heap.get? i=some (itO (oI ⟨0,t,u⟩))∧s.heap.objs.size≤i∧i≠a) :
  ∃(ax:List Nat) (ix:List I3),ax.length=stN b 1∧ix.length=stN b 1∧(∀c∈ax,s.heap.objs.size≤c)∧KeyOk (ktOf w.params) (put3 ads a) s1.heap (keyOf (x.bs++ax) (x.is++ix))∧refs' b x i=(x.bs++ax).map .ref:=by
 cases b with
 | false =>
  refine ⟨[],[],rfl,rfl,λ_ h=>(nomatch h),?_,?_⟩
  ·rw [I8,I8]
   exact ur kx kp hs
  ·rw [I8]
   rfl
 | true =>
  obtain ⟨g,hz,ne⟩:=f rfl
  refine ⟨[i],[⟨0,t,u⟩],rfl,rfl,λc hc => ?_,qk9 bx kx kp hs g hz (λhm => ?_) (qjM hkt hz),qtw.symm⟩
  ·rw [M5.mp hc]
   exact hz
  ·rcases ul hm with h | h
   ·exact qgf hob hz h
   ·exact ne h
theorem qdV (b:Bool) (x:RS):qkv b x=x.n+stN b 1:=by cases b <;> rfl
theorem qiu {m:MS} {T:LT} {vs:List T1} {tv nx ny a:Nat} {l l':LV} {s0 s1:Int} {tb:Obj} {x y:RS} {bx by_:List Nat} {ix iy:List I3} {rx ry:List T1} {h:Heap} {ads:List Nat} (hlen:ads.length=19)
  (f:Objs h ads ([frM w.params m T ads a,uD (.ref (adF ads 0 2)),qd vs tv]++yP w.params m l s0 s1 ads++yY w.params x ads 6 16 rx nx++yY w.params y ads 10 17 ry ny++wm m tb x y)) (hl:h.get? a=some l'.ob) (ex:rx=bx.map .ref) (ey:ry=by_.map .ref) :
  Objs h (put3 ads a) (jq w.params m T vs tv l' s0 s1 tb {x with n:=nx,bs:=bx,is:=ix} {y with n:=ny,bs:=by_,is:=iy} (put3 ads a)):=by
 obtain ⟨a0,a1,a2,a3,a4,a5,a6,a7,a8,a9,a10,a11,a12,a13,a14,a15,a16,a17,a18,rfl⟩:=vz hlen
 subst ex ey
 obtain ⟨tl,k6,k7,rv,sv,st⟩:=T
 cases tl <;> exact ⟨f.1,f.2.1,f.2.2.1,hl,f.2.2.2.2.1,f.2.2.2.2.2.1,f.2.2.2.2.2.2.1,f.2.2.2.2.2.2.2.1,f.2.2.2.2.2.2.2.2.1,f.2.2.2.2.2.2.2.2.2.1,f.2.2.2.2.2.2.2.2.2.2.1,f.2.2.2.2.2.2.2.2.2.2.2.1,f.2.2.2.2.2.2.2.2.2.2.2.2.1,f.2.2.2.2.2.2.2.2.2.2.2.2.2.1,f.2.2.2.2.2.2.2.2.2.2.2.2.2.2.1,f.2.2.2.2.2.2.2.2.2.2.2.2.2.2.2.1,f.2.2.2.2.2.2.2.2.2.2.2.2.2.2.2.2.1,f.2.2.2.2.2.2.2.2.2.2.2.2.2.2.2.2.2.1,f.2.2.2.2.2.2.2.2.2.2.2.2.2.2.2.2.2.2.1,trivial⟩
theorem qpm {b0 b1:Bool} {h:Heap} {ν:Nat→Nat} {t u v z:U1} (hn:Objs h (nuFrom ν 4 (tupsN b0 b1 t u v z)) (tupsN b0 b1 t u v z)) (hb:b0=true):h.get? (ν 4)=some (itO (oI ⟨0,t,u⟩)):=by
 subst hb
 cases b1 <;> exact hn.1
theorem qpl {b0 b1:Bool} {h:Heap} {ν:Nat→Nat} {t u v z:U1} (hn:Objs h (nuFrom ν 4 (tupsN b0 b1 t u v z)) (tupsN b0 b1 t u v z)) (hb:b1=true):h.get? (ν (qkK b0))=some (itO (oI ⟨0,v,z⟩)):=by
 subst hb
 cases b0
 ·exact hn.1
 ·exact hn.2.1
theorem qmN {b0 b1:Bool} {ν:Nat→Nat} {t u v z:U1}:(b0=true→ν 4∈nuFrom ν 4 (tupsN b0 b1 t u v z))∧(b1=true→ν (qkK b0)∈nuFrom ν 4 (tupsN b0 b1 t u v z)):=by
 constructor
 ·intro h
  subst h
  cases b1 <;> exact .head _
 ·intro h
  subst h
  cases b0
  ·exact .head _
  ·exact .tail _ (.head _)
theorem qiv {m:MS} {T:LT} {vs rx ry:List T1} {tv nx ny a:Nat} {l:LV} {s0 s1:Int} {tb:Obj} {x y:RS} {h:Heap} {ads:List Nat} (hlen:ads.length=19)
  (f:Objs h ads ([frM w.params m T ads a,uD (.ref (adF ads 0 2)),qd vs tv]++yP w.params m l s0 s1 ads++yY w.params x ads 6 16 rx nx++yY w.params y ads 10 17 ry ny++wm m tb x y)):h.get? (adF ads 0 3)=some l.ob:=by
 obtain ⟨a0,a1,a2,a3,a4,a5,a6,a7,a8,a9,a10,a11,a12,a13,a14,a15,a16,a17,a18,rfl⟩:=vz hlen
 exact f.2.2.2.1
theorem qit {b0 b1:Bool} (hb:(b0||b1)=true) {A:Around} {R:Result→T2→Prop} {s:T2} {ads:List Nat} {m:MS} {e:LT} {vs:List T1} {tv:Nat} {l:LV} {tb:Obj} {x y:RS} (G:qks w A ads s) (h14:adF ads 0 14=194)
  (ok:wc b0 b1 vs l x y) (el0:l.l0=15-x.h-x.is.length) (el1:l.l1=15-y.h-y.is.length) (hob:Objs s.heap ads (jq w.params m e vs tv l (stI b0) (stI b1) tb x y ads))
  (kx:KeyOk (ktOf w.params) ads s.heap (keyOf x.bs x.is)) (ky:KeyOk (ktOf w.params) ads s.heap (keyOf y.bs y.is))
  (hfin:∀(s1:T2) (k6 k7:U1) (a:Nat) (t q0 q1:U1) (lv:Nat) (ax:List Nat) (ix:List I3) (ay:List Nat) (iy:List I3),zp s s1 ads→s.heap.objs.size≤a→s1.heap.get? (adF ads 0 3)=some l.ob→ax.length=stN b0 1→ix.length=stN b0 1→ay.length=stN b1 1→iy.length=stN b1 1→
   (∀b∈ax,s.heap.objs.size≤b)→(∀b∈ay,s.heap.objs.size≤b)→KeyOk (ktOf w.params) (put3 ads a) s1.heap (keyOf (x.bs++ax) (x.is++ix))→KeyOk (ktOf w.params) (put3 ads a) s1.heap (keyOf (y.bs++ay) (y.is++iy))→
   Objs s1.heap (put3 ads a) (jq w.params m (qam e k6 k7 (adF ads 0 10) (stI b1) m.st1) (vs++[.int (16*(l.l0-stI b0)+(l.l1-stI b1)) t]) (tv+1) ⟨l.l0-stI b0,q0,l.l1-stI b1,q1,lv⟩ (stI b0) (stI b1) tb (x.more b0 1 ax ix) (y.more b1 1 ay iy) (put3 ads a))→
   codeAny (model prog w) A (whileM (fdK w.params) (adF ads 0 0) (adF ads 0 1)) R s1) :
  codeAny (model prog w) A (whileM (fdK w.params) (adF ads 0 0) (adF ads 0 1)) R s:=by
 refine qrN hb m e vs tv l tb x y ok A ads s R G.h0 G.hd G.hu G.hkt (λp hp => ?_) G.nd G.off hob (λk hk => ?_) G.bare λν s1 P => ?_
 ·rcases E2.mp hp with rfl | hp
  ·exact h14
  ·cases hp
 ·rcases E2.mp hk with rfl | hk
  ·exact kx
  rcases E2.mp hk with rfl | hk
  ·exact ky
  ·cases hk
 show codeAny (model prog w) A (whileM (fdK w.params) (adF ads 0 0) (adF ads 0 1)) R s1
 have e0:15-rl b0 x=l.l0-stI b0:=by cases b0 <;> simp only [rl,stI] <;> lia
 have e1:15-rl b1 y=l.l1-stI b1:=by cases b1 <;> simp only [rl,stI] <;> lia
 have K:=P.kept
 have P1:=P.post
 have P2:=P.news
 have P3:=F3.mp P.nodup
 have P4:=P.ge
 have o3:s.heap.objs.size≤ν 3:=P4 _ (.head _)
 have hs:∀a∈put3 ads (ν 3),a∈ads∨s.heap.objs.size≤a:=λa ha=>by
  rcases ul ha with h | h
  ·exact .inl h
  ·exact .inr (h▸o3)
 have hin:=qmN (b0:=b0) (b1:=b1) (ν:=ν) (t:=ν 12) (u:=ν 13) (v:=ν 14) (z:=ν 15)
 have ne:∀i,i∈nuFrom ν 4 (tupsN b0 b1 (ν 12) (ν 13) (ν 14) (ν 15))→s.heap.objs.size≤i∧i≠ν 3:=λi hi=>⟨P4 _ (.tail _ hi),λq=>P3.1 (q▸hi)⟩
 obtain ⟨ax,ix,l1,l2,nx,kx',rx⟩:=qev ok.bx kx K.keep hs G.hkt hob λq=>⟨qpm P2.2 q,ne _ (hin.1 q)⟩
 obtain ⟨ay,iy,l3,l4,ny,ky',ry⟩:=qev ok.by_ ky K.keep hs G.hkt hob λq=>⟨qpl P2.2 q,ne _ (hin.2 q)⟩
 have n0:=P2.1
 rw [e0,e1] at n0
 unfold yW at P1
 rw [e0,e1,qdV,qdV] at P1
 exact hfin s1 (ν 9) (ν 10) (ν 3) (ν 6) (ν 7) (ν 8) (ν 11) ax ix ay iy K o3 (qiv hob.len P1) l1 l2 l3 l4 nx ny kx' ky' (qiu hob.len P1 n0 rx ry)
theorem qey {ads:List Nat} {a:Nat} (h:ads.length=19):put3 ads (adF ads 0 3)=ads:=by
 match ads,h with
 | _::_::_::_::_,_=>rfl
theorem qji {ads:List Nat} {a b:Nat}:put3 (put3 ads a) b=put3 ads b:=by
 match ads with
 | _::_::_::_::_=>rfl
 | []=>rfl
 | [_]=>rfl
 | [_,_]=>rfl
 | [_,_,_]=>rfl
theorem qaQ {ads:List Nat} {a i:Nat} (h:ads.length=19) (hi:i≠3):adF (put3 ads a) 0 i=adF ads 0 i:=by
 match ads,h with
 | _::_::_::_::l,_ =>
  match i,hi with
  | 0,_=>rfl
  | 1,_=>rfl
  | 2,_=>rfl
  | i+4,_=>rfl
theorem qp4 {ads:List Nat} {a:Nat} (h:ads.length=19):adF (put3 ads a) 0 3=a:=by
 match ads,h with
 | _::_::_::_::l,_=>rfl
theorem qhc {ads:List Nat} {a:Nat} (h:ads.Nodup) (ha:a∉ads):(put3 ads a).Nodup:=by
 match ads,h,ha with
 | a0::a1::a2::a3::l,h,ha =>
  show (a0::a1::a2::a::l).Nodup
  simp only [F3,E2,not_or] at h ha ⊢
  obtain ⟨⟨h01,h02,h03,h0⟩,⟨h12,h13,h1⟩,⟨h23,h2⟩,h3,hl⟩:=h
  obtain ⟨g0,g1,g2,g3,g⟩:=ha
  exact ⟨⟨h01,h02,λe=>g0 e.symm,h0⟩,⟨h12,λe=>g1 e.symm,h1⟩,⟨λe=>g2 e.symm,h2⟩,g,hl⟩
 | [],h,_=>exact h
 | [_],h,_=>exact h
 | [_,_],h,_=>exact h
 | [_,_,_],h,_=>exact h
theorem qjG (x:RS) (b:Bool):x.more b 0 [] []=x:=by
 cases b <;> (obtain ⟨r,tk,h,th,n,bs,is⟩:=x;simp [RS.more,stN])
theorem qjF (x:RS) (b:Bool) (n:Nat) (b1 b2:List Nat) (i1 i2:List I3):(x.more b 1 b1 i1).more b n b2 i2=x.more b (n+1) (b1++b2) (i1++i2):=by
 obtain ⟨r,tk,h,th,k,bs,is⟩:=x
 cases b <;> simp [RS.more,stN] <;> lia
theorem qd4 (b:Bool) (n:Nat):stN b 1+stN b n=stN b (n+1):=by cases b <;> simp [stN] <;> lia
theorem qeL {x:RS} {b:Bool} {n:Nat} {bx:List Nat} {ix:List I3} (h:x.bs.length=x.is.length) (h1:bx.length=stN b n) (h2:ix.length=stN b n):(x.more b n bx ix).bs.length=(x.more b n bx ix).is.length:=by
 show (x.bs++bx).length=(x.is++ix).length
 rw [G1,G1,h,h1,h2]
theorem qmg (b:Bool):((stN b 1:Nat):Int)=stI b:=by cases b <;> rfl
theorem qpg {ads:List Nat} {i n:Nat} (h:ads.length=n) (hi:i<n):adF ads 0 i∈ads:=by
 subst h
 induction ads generalizing i with
 | nil=>cases hi
 | cons a l ih =>
  cases i with
  | zero=>exact .head _
  | succ i=>exact .tail _ (ih (L6 hi))
theorem qjH {ads:List Nat} {a b:Nat} (hl:ads.length=19) (nd:ads.Nodup) (h:b∈put3 ads a):(b∈ads∧b≠adF ads 0 3)∨b=a:=by
 match ads,hl,nd with
 | a0::a1::a2::a3::l,_,nd =>
  have h:b∈a0::a1::a2::a::l:=h
  show (b∈a0::a1::a2::a3::l∧b≠a3)∨b=a
  simp only [F3,E2,not_or] at nd h ⊢
  obtain ⟨⟨_,_,h03,_⟩,⟨_,h13,_⟩,⟨h23,_⟩,h3,_⟩:=nd
  rcases h with rfl | rfl | rfl | rfl | h
  ·exact .inl ⟨.inl rfl,h03⟩
  ·exact .inl ⟨.inr (.inl rfl),h13⟩
  ·exact .inl ⟨.inr (.inr (.inl rfl)),h23⟩
  ·exact .inr rfl
  ·exact .inl ⟨.inr (.inr (.inr (.inr h))),λe=>h3 (e▸h)⟩
theorem qbl {ads:List Nat} {a:Nat} (hl:ads.length=19):a∈put3 ads a:=by
 match ads,hl with
 | a0::a1::a2::a3::l,_=>exact .tail _ (.tail _ (.tail _ (.head _)))
theorem qgt {kt:Nat→Option Obj} {ads:List Nat} {h:Heap} {bs:List Nat} {is:List I3} {b:Nat} (K:KeyOk kt ads h (keyOf bs is)) (hl:bs.length=is.length) (hb:b∈ads):b∉bs:=λhm=>by
 have z:b∈(keyOf bs is).map (·.1):=by
  unfold keyOf
  rw [yr (by rw [G3];exact hl)]
  exact hm
 obtain ⟨p,hp,rfl⟩:=I6.mp z
 exact (K.2 p hp).2.1 hb
theorem qgo {b0 b1:Bool} (hb:(b0||b1)=true) {m:MS} {tb:Obj}:∀(n:Nat) (e:LT) (vs:List T1) (tv:Nat) (l:LV) (x y:RS) (ads:List Nat) (s:T2) (A:Around) (R:Result→T2→Prop),qks w A ads s→adF ads 0 14=194→
  x.bs.length=x.is.length→y.bs.length=y.is.length→0≤x.h→0≤y.h→l.l0=15-x.h-x.is.length→l.l1=15-y.h-y.is.length→n*stI b0≤l.l0→n*stI b1≤l.l1→(l.l0-n*stI b0<stI b0∨l.l1-n*stI b1<stI b1)→vs.length+n≤16→
  Objs s.heap ads (jq w.params m e vs tv l (stI b0) (stI b1) tb x y ads)→KeyOk (ktOf w.params) ads s.heap (keyOf x.bs x.is)→KeyOk (ktOf w.params) ads s.heap (keyOf y.bs y.is)→
  (∀s',LoopEnd w m tb b0 b1 e vs tv l x y ads n s s'→R (.ok .next) s')→codeAny (model prog w) A (whileM (fdK w.params) (adF ads 0 0) (adF ads 0 1)) R s
 | 0,e,vs,tv,l,x,y,ads,s,A,R,G,h14,bx,by_,hx,hy,e0,e1,g0,g1,hend,hv,hob,kx,ky,hfin=>by
  have hlen:ads.length=19:=hob.len
  have z0:((0:Nat):Int)*stI b0=0:=Int.zero_mul _
  have z1:((0:Nat):Int)*stI b1=0:=Int.zero_mul _
  rw [z0,z1] at hend
  refine qcf m e vs tv l (stI b0) (stI b1) tb x y (by lia) A ads s R G.h0 G.hd G.hu G.hkt (λp hp=>nomatch hp) G.nd G.off hob (λk hk=>nomatch hk) G.bare λν s1 P => ?_
  refine hfin s1 (D6 e [] l.t0 l.t1 l.n [] [] [] [] (adF ads 0 3) P.kept ⟨by simp,λ_=>⟨rfl,rfl,rfl,rfl,rfl⟩,rfl,by cases b0 <;> rfl,by cases b0 <;> rfl,by cases b1 <;> rfl,by cases b1 <;> rfl,λh=>absurd h (Nat.lt_irrefl _),(by simp),(by simp),(by simp),(by simp),?_,?_,?_⟩)
  ·rw [qey (a:=0) hlen,I8,I8]
   exact ur kx P.keep λa ha => .inl ha
  ·rw [qey (a:=0) hlen,I8,I8]
   exact ur ky P.keep λa ha => .inl ha
  ·rw [qey (a:=0) hlen,z0,z1]
   have q:=P.post
   have ex:({x with n:=x.n+stN b0 0,bs:=x.bs++[],is:=x.is++[]}:RS)=x:=qjG x b0
   have ey:({y with n:=y.n+stN b1 0,bs:=y.bs++[],is:=y.is++[]}:RS)=y:=qjG y b1
   rw [ex,ey,Int.sub_zero,Int.sub_zero]
   show Objs s1.heap ads (jq w.params m e (vs++[]) (tv+0) l (stI b0) (stI b1) tb x y ads)
   rw [I8]
   exact q
 | n+1,e,vs,tv,l,x,y,ads,s,A,R,G,h14,bx,by_,hx,hy,e0,e1,g0,g1,hend,hv,hob,kx,ky,hfin=>by
  have hlen:ads.length=19:=hob.len
  have q0:((n+1:Nat):Int)*stI b0=n*stI b0+stI b0:=by rw [N3,Int.add_mul];simp
  have q1:((n+1:Nat):Int)*stI b1=n*stI b1+stI b1:=by rw [N3,Int.add_mul];simp
  rw [q0] at g0 hend
  rw [q1] at g1 hend
  have p0:0≤(n:Int)*stI b0:=by cases b0 <;> simp [stI]
  have p1:0≤(n:Int)*stI b1:=by cases b1 <;> simp [stI]
  refine qit hb G h14 ⟨bx,by_,hx,hy,by lia,by lia,by lia,by lia,by lia⟩ e0 e1 hob kx ky λs1 k6 k7 a t r0 r1 lv ax ix ay iy K oa o3 l1 l2 l3 l4 nx ny kx1 ky1 hob1 => ?_
  have ha:a∉ads:=qgf hob oa
  have c0:=qaQ (a:=a) (i:=0) hlen (by decide)
  have c1:=qaQ (a:=a) (i:=1) hlen (by decide)
  rw [←c0,←c1]
  have sx:=qmg b0
  have sy:=qmg b1
  refine qgo hb n _ _ _ _ (x.more b0 1 ax ix) (y.more b1 1 ay iy) (put3 ads a) s1 A R ⟨G.h0,G.hd,G.hu,λb o eb => ?_,qhc G.nd ha,λb hb' => ?_,K.bare⟩ (by rw [qaQ hlen (by decide)];exact h14) (qeL bx l1 l2) (qeL by_ l3 l4) hx hy ?_ ?_ (by show _≤l.l0-stI b0;lia) (by show _≤l.l1-stI b1;lia) (by show l.l0-stI b0-_<_∨l.l1-stI b1-_<_;lia) (by rw [G1,L1];lia) hob1 kx1 ky1 λs2 L => ?_
  ·exact K.keep b o (G.hkt b o eb) λhm=>absurd ((G.off b hm).symm.trans eb) (λh=>nomatch h)
  ·rcases ul hb' with h | h
   ·exact G.off b h
   ·subst h
    exact qjM G.hkt oa
  ·show l.l0-stI b0=15-x.h-((x.is++ix).length:Nat)
   rw [G1,l2,N3,sx]
   lia
  ·show l.l1-stI b1=15-y.h-((y.is++iy).length:Nat)
   rw [G1,l4,N3,sy]
   lia
  ·refine L.elim λe' ts t0 t1 lv' bx' ix' by' iy' a' K2 F => ?_
   have sub:∀b∈put3 ads a,b∈ads∨s.heap.objs.size≤b:=λb hb'=>(by
    rcases ul hb' with h | h
    ·exact .inl h
    ·exact .inr (h▸oa))
   have late1:(qam e k6 k7 (adF ads 0 10) (stI b1) m.st1).late=true:=by unfold qam;split <;> rfl
   have a3:adF (put3 ads a) 0 3=a:=qp4 hlen
   have naa:s.heap.objs.size≤a':=by
    by_cases hn:n=0
    ·rw [(F.f2 hn).2.1,a3];exact oa
    ·exact E7 K.le0 (F.f8 (by lia)).1
   have pp:∀a',put3 (put3 ads a) a'=put3 ads a':=λa'=>qji
   have f13:=F.f13
   have f14:=F.f14
   have f15:=F.f15
   rw [pp] at f13 f14 f15
   have f13:KeyOk (ktOf w.params) (put3 ads a') s2.heap (keyOf (x.bs++(ax++bx')) (x.is++(ix++ix'))):=by
    rw [←L4,←L4];exact f13
   have f14:KeyOk (ktOf w.params) (put3 ads a') s2.heap (keyOf (y.bs++(ay++by')) (y.is++(iy++iy'))):=by
    rw [←L4,←L4];exact f14
   have lx:(x.bs++(ax++bx')).length=(x.is++(ix++ix')).length:=by have f4:=F.f4;have f5:=F.f5;simp only [G1];lia
   have ly:(y.bs++(ay++by')).length=(y.is++(iy++iy')).length:=by have f6:=F.f6;have f7:=F.f7;simp only [G1];lia
   have k0:=qd4 b0 n
   have k1:=qd4 b1 n
   have g3:s2.heap.get? (adF ads 0 3)=some l.ob:=K2.keep _ _ o3 λhm=>by
    have hin:adF ads 0 3∈ads:=(qpg hlen (by decide))
    rcases qjH hlen G.nd hm with h | h
    ·exact h.2 rfl
    ·exact ha (h▸hin)
   refine hfin s2 (D6 e' (t::ts) t0 t1 lv' (ax++bx') (ix++ix') (ay++by') (iy++iy') a' (K.trans K2 sub) ⟨?_,(λh=>nomatch h),congrArg G6 F.f3,?_,?_,?_,?_,(λ_=>⟨naa,g3,?_⟩),(λhm=>qgt f13 lx (qbl hlen) (J0 _ hm)),(λhm=>qgt f14 ly (qbl hlen) (J0 _ hm)),?_,?_,f13,f14,?_⟩)
   ·rw [F.f1,late1];simp
   ·rw [G1,l1,F.f4];exact k0
   ·rw [G1,l2,F.f5];exact k0
   ·rw [G1,l3,F.f6];exact k1
   ·rw [G1,l4,F.f7];exact k1
   ·by_cases hn:n=0
    ·rw [(F.f2 hn).1]
     unfold qam
     split <;> exact ⟨rfl,rfl,rfl⟩
    ·obtain ⟨_,_,h⟩:=F.f8 (by lia)
     rw [qaQ hlen (by decide)] at h
     exact h
   ·intro b hb'
    rcases I1.mp hb' with h | h
    ·exact nx b h
    ·exact E7 K.le0 (F.f11 b h)
   ·intro b hb'
    rcases I1.mp hb' with h | h
    ·exact ny b h
    ·exact E7 K.le0 (F.f12 b h)
   ·have em:∀(z:RS) (b:Bool) (b1 b2:List Nat) (i1 i2:List I3),({z.more b 1 b1 i1 with n:=(z.more b 1 b1 i1).n+stN b n,bs:=(z.more b 1 b1 i1).bs++b2,is:=(z.more b 1 b1 i1).is++i2}:RS)={z with n:=z.n+stN b (n+1),bs:=z.bs++(b1++b2),is:=z.is++(i1++i2)}:=λz b b1 b2 i1 i2=>qjF z b n b1 b2 i1 i2
    rw [em,em] at f15
    rw [q0,q1,show l.l0-(↑n*stI b0+stI b0)=l.l0-stI b0 - ↑n*stI b0 by lia,show l.l1-(↑n*stI b1+stI b1)=l.l1-stI b1 - ↑n*stI b1 by lia,show tv+(n+1)=tv+1+n by lia]
    have ev:vs++yL (toldF l.l0 l.l1 (stI b0) (stI b1) (n+1)) (t::ts)=vs++[.int (16*(l.l0-stI b0)+(l.l1-stI b1)) t]++yL (toldF (l.l0-stI b0) (l.l1-stI b1) (stI b0) (stI b1) n) ts:=by
     rw [L4];rfl
    rw [ev]
    exact f15
end
section
noncomputable def mx (a:Int):Int:=match decide (0≤a) with
 | true=>a
 | false=>0
noncomputable def jK (a:Int) (t u:U1):Ctr where
 code ads := .builtin "max" ⟨[.int a t, .int 0 u],[]⟩
 ok ads:=[]
 pre ads:=[]
 res ads ν := .done (.ok (.ret (.int (mx a) (ν 3))))
 post ads ν:=[]
 news ads ν:=[]
 frz:=[]
variable {w:T3}
noncomputable def hintsTwice0:List Nat:=hx 0x100305d120be0f20120f103d02d0001d
theorem qqn (t u:U1):RunOk w (jK (-2) t u) 0 90 [] [] hintsTwice0 [] [] (λ_ _ _ _=>[]) (λ_ _ _ _=>[u]):=λN t0 gN a x y z=>by
 kernel_rfl
theorem qqo (t u:U1):RunOk w (jK (-1) t u) 0 90 [] [] hintsTwice0 [] [] (λ_ _ _ _=>[]) (λ_ _ _ _=>[u]):=λN t0 gN a x y z=>by
 kernel_rfl
noncomputable def hintsTwice1:List Nat:=hx 0x100305d0708e080be0f20120f103d02d0001d
theorem qsc (t u:U1):RunOk w (jK (0) t u) 0 90 [] [] hintsTwice1 [] [] (λ_ _ _ _=>[]) (λ_ _ _ _=>[t]):=λN t0 gN a x y z=>by
 kernel_rfl
theorem qsb (t u:U1):RunOk w (jK (1) t u) 0 90 [] [] hintsTwice1 [] [] (λ_ _ _ _=>[]) (λ_ _ _ _=>[t]):=λN t0 gN a x y z=>by
 kernel_rfl
theorem qsa (t u:U1):RunOk w (jK (2) t u) 0 90 [] [] hintsTwice1 [] [] (λ_ _ _ _=>[]) (λ_ _ _ _=>[t]):=λN t0 gN a x y z=>by
 kernel_rfl
theorem zj {a:Int} {t u:U1} (h0 : -2≤a) (h1:a≤2):VC w 1 (jK a t u):=by
 refine qu 0 λads hl hok => ?_
 obtain rfl:=E5 hl
 have e:a = -2∨a = -1∨a=0∨a=1∨a=2:=by lia
 rcases e with rfl | rfl | rfl | rfl | rfl
 ·exact (C2 (qqn t u) B0 (λ_ _ _ _ _ h=>nomatch h))
 ·exact (C2 (qqo t u) B0 (λ_ _ _ _ _ h=>nomatch h))
 ·exact (C2 (qsc t u) B0 (λ_ _ _ _ _ h=>nomatch h))
 ·exact (C2 (qsb t u) B0 (λ_ _ _ _ _ h=>nomatch h))
 ·exact (C2 (qsa t u) B0 (λ_ _ _ _ _ h=>nomatch h))
noncomputable def nuL (ν:Nat→Nat) (j n:Nat):List Nat:=(G8 n).map λi=>ν (20+10*i+j)
noncomputable def nuI (ν:Nat→Nat) (j n:Nat):List I3:=(G8 n).map λi=>⟨ν (20+10*i+j),ν (20+10*i+(j+1)),ν (20+10*i+(j+2))⟩
noncomputable def qse (l:LV) (b0 b1:Bool) (n:Nat) (ν:Nat→Nat):LV:=⟨l.l0-n*stI b0,ν 5,l.l1-n*stI b1,ν 6,ν 7⟩
noncomputable def qmr (p:T4) (fd:T5) (b0 b1:Bool) (m:MS) (e:LT) (l:LV) (tb:Obj) (x y:RS) (n:Nat):Ctr where
 code ads:=whileM fd (adF ads 0 0) (adF ads 0 1)
 ok ads:=[(adF ads 0 14,194)]
 pre ads:=jq p m e [] 0 l (stI b0) (stI b1) tb x y ads
 res ads ν := .done (.ok .next)
 post ads ν:=[frM p m ⟨true,ν 8,ν 9,adF ads 0 10,stI b1,m.st1⟩ ads (ν 3),uD (.ref (adF ads 0 2)),qd (yL (toldF l.l0 l.l1 (stI b0) (stI b1) n) (nuL ν 8 n)) n]++yP p m l (stI b0) (stI b1) ads++yY p x ads 6 16 ((nuL ν 0 (stN b0 n)).map .ref) (x.n+stN b0 n)++yY p y ads 10 17 ((nuL ν 1 (stN b1 n)).map .ref) (y.n+stN b1 n)++wm m tb x y
 news ads ν:=[(qse l b0 b1 n ν).ob]
 frz:=[]
 kpost ads ν:=[keyOf (nuL ν 0 (stN b0 n)) (nuI ν 2 (stN b0 n)),keyOf (nuL ν 1 (stN b1 n)) (nuI ν 5 (stN b1 n))]
noncomputable def nuJ (bx by_:List Nat) (ix iy:List I3) (ts:List Nat) (j i:Nat):Nat:=match j with
 | 0=>bx.getD i 0
 | 1=>by_.getD i 0
 | 2=>(ix.getD i ⟨0,0,0⟩).n
 | 3=>(ix.getD i ⟨0,0,0⟩).t
 | 4=>(ix.getD i ⟨0,0,0⟩).u
 | 5=>(iy.getD i ⟨0,0,0⟩).n
 | 6=>(iy.getD i ⟨0,0,0⟩).t
 | 7=>(iy.getD i ⟨0,0,0⟩).u
 | _=>ts.getD i 0
noncomputable def nuD (x y z a q0 q1 lv k6 k7:Nat) (bx by_:List Nat) (ix iy:List I3) (ts:List Nat) (k:Nat):Nat :=
 if k<20 then nu x y z [a,0,q0,q1,lv,k6,k7] k else nuJ bx by_ ix iy ts ((k-20)%10) ((k-20)/10)
theorem qp8 {x y z a q0 q1 lv k6 k7:Nat} {bx by_:List Nat} {ix iy:List I3} {ts:List Nat} (i j:Nat) (hj:j<10):nuD x y z a q0 q1 lv k6 k7 bx by_ ix iy ts (20+10*i+j)=nuJ bx by_ ix iy ts j i:=by
 unfold nuD
 rw [if_neg (by lia),show (20+10*i+j-20)%10=j by lia,show (20+10*i+j-20)/10=i by lia]
theorem qjJ {m:MS} {T:LT} {vs:List T1} {tv nx ny a:Nat} {l l':LV} {s0 s1:Int} {tb:Obj} {x y:RS} {bx by_:List Nat} {ix iy:List I3} {h:Heap} {ads:List Nat} (hlen:ads.length=19)
  (f:Objs h (put3 ads a) (jq w.params m T vs tv l' s0 s1 tb {x with n:=nx,bs:=bx,is:=ix} {y with n:=ny,bs:=by_,is:=iy} (put3 ads a))) (hl:h.get? (adF ads 0 3)=some l.ob) :
  Objs h ads ([frM w.params m T ads a,uD (.ref (adF ads 0 2)),qd vs tv]++yP w.params m l s0 s1 ads++yY w.params x ads 6 16 (bx.map .ref) nx++yY w.params y ads 10 17 (by_.map .ref) ny++wm m tb x y):=by
 obtain ⟨a0,a1,a2,a3,a4,a5,a6,a7,a8,a9,a10,a11,a12,a13,a14,a15,a16,a17,a18,rfl⟩:=vz hlen
 obtain ⟨tl,k6,k7,rv,sv,st⟩:=T
 cases tl <;> exact ⟨f.1,f.2.1,f.2.2.1,hl,f.2.2.2.2.1,f.2.2.2.2.2.1,f.2.2.2.2.2.2.1,f.2.2.2.2.2.2.2.1,f.2.2.2.2.2.2.2.2.1,f.2.2.2.2.2.2.2.2.2.1,f.2.2.2.2.2.2.2.2.2.2.1,f.2.2.2.2.2.2.2.2.2.2.2.1,f.2.2.2.2.2.2.2.2.2.2.2.2.1,f.2.2.2.2.2.2.2.2.2.2.2.2.2.1,f.2.2.2.2.2.2.2.2.2.2.2.2.2.2.1,f.2.2.2.2.2.2.2.2.2.2.2.2.2.2.2.1,f.2.2.2.2.2.2.2.2.2.2.2.2.2.2.2.2.1,f.2.2.2.2.2.2.2.2.2.2.2.2.2.2.2.2.2.1,f.2.2.2.2.2.2.2.2.2.2.2.2.2.2.2.2.2.2.1,trivial⟩
theorem qjK {m:MS} {T:LT} {vs:List T1} {tv a:Nat} {l':LV} {s0 s1:Int} {tb:Obj} {x y:RS} {h:Heap} {ads:List Nat} (hlen:ads.length=19) (f:Objs h (put3 ads a) (jq w.params m T vs tv l' s0 s1 tb x y (put3 ads a))):h.get? a=some l'.ob:=by
 obtain ⟨a0,a1,a2,a3,a4,a5,a6,a7,a8,a9,a10,a11,a12,a13,a14,a15,a16,a17,a18,rfl⟩:=vz hlen
 exact f.2.2.2.1
theorem vC {b0 b1:Bool} (hb:(b0||b1)=true) {m:MS} {e:LT} {l:LV} {tb:Obj} {x y:RS} {n:Nat} (hn:0<n) (xb:x.bs=[]) (xi:x.is=[]) (yb:y.bs=[]) (yi:y.is=[]) (hx:0≤x.h) (hy:0≤y.h) (e0:l.l0=15-x.h) (e1:l.l1=15-y.h)
  (g0:n*stI b0≤l.l0) (g1:n*stI b1≤l.l1) (hend:l.l0-n*stI b0<stI b0∨l.l1-n*stI b1<stI b1) (hv:n≤16):VC w 3 (qmr w.params (fdK w.params) b0 b1 m e l tb x y n):=by
 intro A ads s R h0 hd hu hkt hok hnd hoff hob hfz hbare hfin
 have hlen:ads.length=19:=hob.len
 refine qgo hb (m:=m) (tb:=tb) n e [] 0 l x y ads s A R ⟨h0,hd,hu,hkt,hnd,hoff,hbare⟩ (hok _ (.head _)) (by rw [xb,xi];rfl) (by rw [yb,yi];rfl) hx hy (by rw [xi,e0];simp) (by rw [yi,e1];simp) g0 g1 hend (by simpa using hv) hob (by rw [xb,xi];exact ⟨F8,λp h=>nomatch h⟩) (by rw [yb,yi];exact ⟨F8,λp h=>nomatch h⟩) λs' L => ?_
 refine L.elim λe' ts q0 q1 lv bx ix by_ iy a K F => ?_
 obtain ⟨f8a,f8b,f8c,f8d,f8e⟩:=F.f8 hn
 have late:e'.late=true:=by rw [F.f1,decide_eq_true hn,M4]
 have f13:=F.f13
 rw [xb,xi,N4,N4] at f13
 have f14:=F.f14
 rw [yb,yi,N4,N4] at f14
 let ν:=nuD s'.heap.objs.size s'.toks s'.gens.size a q0 q1 lv e'.k6 e'.k7 bx by_ ix iy ts
 have hν:∀i j,j<10→ν (20+10*i+j)=nuJ bx by_ ix iy ts j i:=λi j hj=>qp8 i j hj
 have n0:nuL ν 0 (stN b0 n)=bx:=ym F.f4 λi hi=>by rw [hν i 0 (by decide)];show bx.getD i 0=_;simp [hi]
 have n1:nuL ν 1 (stN b1 n)=by_:=ym F.f6 λi hi=>by rw [hν i 1 (by decide)];show by_.getD i 0=_;simp [hi]
 have n8:nuL ν 8 n=ts:=ym F.f3 λi hi=>by rw [hν i 8 (by decide)];show ts.getD i 0=_;simp [hi]
 have i2:nuI ν 2 (stN b0 n)=ix:=ym F.f5 λi hi=>by rw [hν i 2 (by decide),hν i (2+1) (by decide),hν i (2+2) (by decide)];show ix.getD i ⟨0,0,0⟩=_;simp [hi]
 have i5:nuI ν 5 (stN b1 n)=iy:=ym F.f7 λi hi=>by rw [hν i 5 (by decide),hν i (5+1) (by decide),hν i (5+2) (by decide)];show iy.getD i ⟨0,0,0⟩=_;simp [hi]
 refine hfin ν s' ⟨?_,⟨?_,trivial⟩,?_,?_,K.keep,K.le0,rfl,rfl,rfl,K.le2,K.gk,K.bare,K.dr,K.os,?_⟩
 ·show Objs s'.heap ads ([frM w.params m ⟨true,ν 8,ν 9,adF ads 0 10,stI b1,m.st1⟩ ads (ν 3),uD (.ref (adF ads 0 2)),qd (yL (toldF l.l0 l.l1 (stI b0) (stI b1) n) (nuL ν 8 n)) n]++yP w.params m l (stI b0) (stI b1) ads++yY w.params x ads 6 16 ((nuL ν 0 (stN b0 n)).map .ref) (x.n+stN b0 n)++yY w.params y ads 10 17 ((nuL ν 1 (stN b1 n)).map .ref) (y.n+stN b1 n)++wm m tb x y)
  rw [n0,n1,n8]
  have ee:e'=⟨true,ν 8,ν 9,adF ads 0 10,stI b1,m.st1⟩:=by
   obtain ⟨la,k6,k7,rv,sv,st⟩:=e'
   simp only at late f8c f8d f8e
   subst late f8c f8d f8e
   rfl
  have f15:=F.f15
  rw [ee,xb,yb,O5] at f15
  exact qjJ hlen f15 f8b
 ·exact qjK hlen F.f15
 ·exact F3.mpr ⟨(λh=>nomatch h),F8⟩
 ·intro b hb
  rcases E2.mp hb with rfl | hb
  ·exact f8a
  ·cases hb
 ·intro k hk
  have hk:k∈[keyOf (nuL ν 0 (stN b0 n)) (nuI ν 2 (stN b0 n)),keyOf (nuL ν 1 (stN b1 n)) (nuI ν 5 (stN b1 n))]:=hk
  rw [n0,n1,i2,i5] at hk
  have lx:bx.length=ix.length:=by rw [F.f4,F.f5]
  have ly:by_.length=iy.length:=by rw [F.f6,F.f7]
  have am:a∈put3 ads a:=qbl hlen
  have fin:∀(bs:List Nat) (is:List I3),bs.length=is.length→KeyOk (ktOf w.params) (put3 ads a) s'.heap (keyOf bs is)→(∀b∈bs,s.heap.objs.size≤b)→(G7 (·.1) (keyOf bs is)).Nodup∧∀p∈keyOf bs is,s'.heap.get? p.1=some p.2∧s.heap.objs.size≤p.1∧p.1∉[a]:=λbs is hl Kk hge=>⟨Kk.1,λp hp=>⟨(Kk.2 p hp).1,hge _ (by
   have z:p.1∈(keyOf bs is).map (·.1):=List.mem_map_of_mem hp
   unfold keyOf at z
   rwa [yr (by rw [G3];exact hl)] at z),λh=>(Kk.2 p hp).2.1 (by rw [M5.mp h];exact am)⟩⟩
  rcases E2.mp hk with rfl | hk
  ·exact fin bx ix lx f13 F.f11
  rcases E2.mp hk with rfl | hk
  ·exact fin by_ iy ly f14 F.f12
  ·cases hk
noncomputable def qb (r:Int) (a:Int):Int:=15-r+mx a
noncomputable def qeK (r0:Int) (t0:U1) (r1:Int) (t1:U1) (rv:Nat) (s0:Int) (u0:U1) (s1:Int) (u1:U1) (sn cd:Nat) (tb:Obj):List Obj:=[qd [.int r0 t0, .int r1 t1] rv,qkA sn s0 u0 s1 u1,zU cd,tb]
noncomputable def zI (b0 b1:Bool) (r0:Int) (t0:U1) (r1:Int) (t1:U1) (rv:Nat) (u0 u1:U1) (sn cd:Nat) (tb:Obj) (tb':(Nat→Nat)→Obj) (lead:Int) (lt:U1) (n:Nat):Ctr where
 code ads := .call (.ref 272) ⟨[.ref (adF ads 0 0), .ref (adF ads 0 1), .int lead lt],[]⟩
 ok ads:=[(adF ads 0 2,194),(adF ads 0 3,201)]
 pre ads:=qeK r0 t0 r1 t1 rv (stI b0) u0 (stI b1) u1 sn cd tb
 res ads ν := .done (.ok (.ret (.ref (ν 3))))
 post ads ν:=qeK r0 t0 r1 t1 rv (stI b0) u0 (stI b1) u1 sn cd (tb' ν)
 news ads ν:=[qd (yL (toldF (15-qb r0 lead) (15-qb r1 (-lead)) (stI b0) (stI b1) n) (nuL ν 8 n)) n]
 frz:=[]
noncomputable def zT (items:List T1) (k:Nat) (ks:List Key):Prop:=∃bs is,items=bs.map .ref∧bs.length=k∧is.length=k∧(ks=[keyOf bs is]∨(k=0∧ks=[]))
noncomputable def qmi (p:T4) (r:RT) (ln:Nat) (tk:U1) (h:Int) (th:U1) (cd n:Nat) (tb:Obj) (f:Nat→Nat) (items:List T1) (k:Nat) (t u:U1):Ctr where
 code ads := .call (.ref 145) ⟨[.ref (adF ads 0 0), .str sSp t, .str sX u],[]⟩
 ok ads:=[(adF ads 0 5,194),(adF ads 0 6,201)]
 pre ads:=zh p r [] ln tk h th cd n tb items [] ads
 res ads ν := .done (.ok (.ret .none))
 post ads ν:=zh p r [.str (oS k) (ν 4)] (ν 5) tk 0 (ν 6) cd (ν 7) (qn (f (ν 8))) [.ref (ν 3)] [] ads
 news ads ν:=[vB 0 sSp t sX u]
 frz:=[]
 fside:=some λks=>zT items k ks∧h+k=15
noncomputable def qmk (p:T4) (r:RT) (ln:Nat) (tk:U1) (h:Int) (th:U1) (cd n c:Nat) (items:List T1) (k:Nat) (u:U1):Ctr where
 code ads := .call (.ref 96) ⟨[.ref (adF ads 0 0), .str sSl u],[]⟩
 ok ads:=[(adF ads 0 5,194),(adF ads 0 6,201)]
 pre ads:=zh p r [] ln tk h th cd n (qn c) items [] ads
 res ads ν := .done (.ok (.ret (.str (oS k) (ν 3))))
 post ads ν:=zh p r (qbU h k (ν 8)) (ν 4) tk 0 (ν 5) cd (ν 6) (qn c) [] [] ads
 news ads ν:=[]
 frz:=[]
 fside:=some λks=>zT items k ks∧0≤h∧h≤17∧k≤14
theorem zT.keys {items:List T1} {k:Nat} {ks:List Key} {kt:Nat→Option Obj} {ads:List Nat} {h:Heap} (S:zT items k ks) (hk:∀k∈ks,KeyOk kt ads h k):∃bs is,items=bs.map .ref∧bs.length=is.length∧is.length=k∧∀k∈[keyOf bs is],KeyOk kt ads h k:=by
 obtain ⟨bs,is,e0,e1,e2,e3⟩:=S
 refine ⟨bs,is,e0,e1.trans e2.symm,e2,?_⟩
 rcases e3 with rfl | ⟨rfl,rfl⟩
 ·exact hk
 ·obtain rfl:=E5 e1
  intro q hq
  rcases E2.mp hq with rfl | hq
  ·exact ⟨F8,λp hp=>nomatch hp⟩
  ·cases hq
theorem zX {r:RT} {ln:Nat} {tk:U1} {h:Int} {th:U1} {cd n:Nat} {tb:Obj} {f:Nat→Nat} {items:List T1} {k:Nat} {t u:U1} (hS:yl w tb f) (h0:0≤h):VC w 2 (qmi w.params r ln tk h th cd n tb f items k t u):=by
 intro A ads s R a1 a2 a3 a4 a5 a6 a7 a8 hfz a9 a10
 obtain ⟨ks,⟨S,e3⟩,hk⟩:=hfz
 obtain ⟨bs,is,rfl,e1,e2,hk⟩:=S.keys hk
 subst e2
 exact qfJ (bs:=bs) (is:=is) hS e1 h0 e3 A ads s R a1 a2 a3 a4 a5 a6 a7 a8 hk a9 λν s' P=>a10 ν s' ⟨P.post,P.news,P.nodup,P.ge,P.keep,P.le0,P.sz,P.tk,P.gs,P.le2,P.gk,P.bare,P.dr,P.os,λk h=>nomatch h⟩
theorem j6 {r:RT} {ln:Nat} {tk:U1} {h:Int} {th:U1} {cd n c:Nat} {items:List T1} {k:Nat} {u:U1}:VC w 2 (qmk w.params r ln tk h th cd n c items k u):=by
 intro A ads s R a1 a2 a3 a4 a5 a6 a7 a8 hfz a9 a10
 obtain ⟨ks,⟨S,e3,e4,e5⟩,hk⟩:=hfz
 obtain ⟨bs,is,rfl,e1,e2,hk⟩:=S.keys hk
 subst e2
 exact qfM (bs:=bs) (is:=is) e1 e3 e4 e5 A ads s R a1 a2 a3 a4 a5 a6 a7 a8 hk a9 λν s' P=>a10 ν s' ⟨P.post,P.news,P.nodup,P.ge,P.keep,P.le0,P.sz,P.tk,P.gs,P.le2,P.gk,P.bare,P.dr,P.os,λk h=>nomatch h⟩
noncomputable def qqh (i:Int) (k:Nat) (t u:U1):Ctr:={zW "str.__mul__" ⟨[.str sO t, .int i u],[]⟩ (λv => .str (oS k) v) with fside:=some λ_=>i=k∧k≤1000}
theorem qfg:∀(n:Nat) (a:Array Nat),(F2 n (#[111]:Array Nat)).foldl (· ++ ·) a=⟨a.toList++F2 n 111⟩
 | 0,a=>by simp
 | n+1,a=>by
  rw [Q7,List.foldl_cons,qfg n]
  simp [Q7]
theorem zi {lev:Nat} {i:Int} {k:Nat} {t u:U1}:VC w lev (qqh i k t u):=by
 intro A ads s R a1 a2 a3 a4 a5 a6 a7 a8 hfz a9 a10
 obtain ⟨ks,⟨e1,e2⟩,_⟩:=hfz
 subst e1
 have z:VC w lev (zW "str.__mul__" ⟨[.str sO t, .int (k:Int) u],[]⟩ (λv => .str (oS k) v)):=by
  have hr:(decide ((k:Int) < -(2 ^ 63:Int))||decide ((k:Int)≥2 ^ 63))=false:=by rw [decide_eq_false (by omega),decide_eq_false (by omega)];rfl
  refine zO (by decide +kernel) PySem.F.entry_str_mul (gives_str_mul sO k t u hr (λ_ _ => ?_) (λ_ _ => ?_)) λs Q q => ?_
  ·show ¬((1:Nat):Int)>(2 ^ 63-1)/(k:Int)
   by_cases h0:k=0
   ·subst h0;rename_i h _;exact absurd (by decide) h
   ·have:(1:Int)≤(2 ^ 63-1)/(k:Int):=(Int.le_ediv_iff_mul_le (by omega)).mpr (by omega)
    lia
  ·show decide _=false
   exact decide_eq_false (by
    rw [show sO.length*(k:Int).toNat=k from by show 1*(k:Int).toNat=k;simp]
    unfold sizeLine
    lia)
  ·by_cases h0:k=0
   ·subst h0
    exact ⟨by decide,q s.toks (s.toks+1)⟩
   ·rw [if_neg (by omega)]
    by_cases h1:k=1
    ·subst h1
     exact q t s.toks
    ·rw [if_neg (by
      have:((k:Int)==1)=false:=beq_false_of_ne (by lia)
      rw [this];decide)]
     have e:(⟨(F2 (k:Int).toNat sO.cps).foldl (· ++ ·) #[]⟩:U2)=oS k:=by
      show Str.mk ((F2 (k:Int).toNat (#[111]:Array Nat)).foldl (· ++ ·) #[])=_
      rw [qfg]
      simp [oS]
     rw [e]
     exact ⟨by show (F2 k 111).length≤_;rw [List.length_replicate];unfold sizeLine;lia,q s.toks (s.toks+1)⟩
 exact z A ads s R a1 a2 a3 a4 a5 a6 a7 a8 (λk h=>nomatch h) a9 λν s' P=>a10 ν s' ⟨P.post,P.news,P.nodup,P.ge,P.keep,P.le0,P.sz,P.tk,P.gs,P.le2,P.gk,P.bare,P.dr,P.os,λk h=>nomatch h⟩
noncomputable def qci (o:Obj) (i:Nat):DictEntry:=match o.data with
 | .dict es _=>match lGet es.toList i with
  | some e=>e
  | none=>⟨0, .none, .none⟩
 | _=>⟨0, .none, .none⟩
noncomputable def zM (o:Obj) (i:Nat):U1:=jR (qci o i).key
noncomputable def yI (o:Obj) (i:Nat):U1:=jR (qci o i).val
noncomputable def qD (v:T1):Int:=match v with
 | .int i _=>i
 | _=>0
noncomputable def qs3 (v:T1):Nat:=match v with
 | .ref a=>a
 | _=>0
noncomputable def qti (c:Code) (i:Nat):Int:=qD (uE c i)
noncomputable def qg6 (o:Obj):RT:=⟨zM o 0,zM o 1,zM o 2,zM o 3,zM o 4,zM o 5,yI o 0,yI o 1,yI o 2,yI o 3⟩
noncomputable def qhO (o:Obj):List T1:=match o.data with
 | .seq xs _=>xs.toList
 | _=>[]
noncomputable def itm (o:Obj) (i:Nat):T1:=match lGet (qhO o) i with
 | some v=>v
 | none => .none
noncomputable def qqi (os:List Obj):MS:=⟨zM (at0 os 0) 0,zM (at0 os 0) 1,zM (at0 os 0) 2,zM (at0 os 0) 3,zM (at0 os 0) 4,zM (at0 os 0) 5,qs3 (qci (at0 os 0) 0).val,qD (qci (at0 os 0) 2).val,yI (at0 os 0) 2,jR (itm (at0 os 4) 0),jR (itm (at0 os 4) 1),qB (at0 os 4),qB (at0 os 5),yo (at0 os 14),jR (itm (at0 os 15) 0),jR (itm (at0 os 15) 1),qB (at0 os 15),qB (at0 os 16),qB (at0 os 17)⟩
noncomputable def qg7 (h:Int) (d a ad:Obj):RS:=⟨qg6 d,zM ad 0,h,yI ad 0,qB a,[],[]⟩
noncomputable def qqp (l0 l1:Int) (o:Obj):LV:=⟨l0,jR (itm o 0),l1,jR (itm o 1),qB o⟩
noncomputable def e0T:LT:=⟨false,0,0,0,0,0⟩
noncomputable def qeO (p:T4) (fd:T5) (b0 b1:Bool) (h0 h1:Int) (n:Nat) (os:List Obj):Ctr:=qmr p fd b0 b1 (qqi os) e0T (qqp (15-h0) (15-h1) (at0 os 3)) (at0 os 18) (qg7 h0 (at0 os 7) (at0 os 8) (at0 os 9)) (qg7 h1 (at0 os 11) (at0 os 12) (at0 os 13)) n
noncomputable def qcg (p:T4) (fd:T5) (s0 s1 h0 h1:Int) (os:List Obj):Ctr:=qdQ p fd (qqi os) e0T [] 0 (qqp (15-h0) (15-h1) (at0 os 3)) s0 s1 (at0 os 18) (qg7 h0 (at0 os 7) (at0 os 8) (at0 os 9)) (qg7 h1 (at0 os 11) (at0 os 12) (at0 os 13))
noncomputable def wE (p:T4) (h:Int) (tb:Obj) (f:Nat→Nat) (k:Nat) (c:Code) (os:List Obj):Ctr:=qmi p (qg6 (at0 os 1)) (qB (at0 os 2)) (zM (at0 os 4) 0) h (yI (at0 os 4) 0) (yo (at0 os 5)) (qB (at0 os 3)) tb f (qhO (at0 os 3)) k (qe c 1) (qe c 2)
noncomputable def vK (p:T4) (h:Int) (k:Nat) (c:Code) (os:List Obj):Ctr:=qmk p (qg6 (at0 os 1)) (qB (at0 os 2)) (zM (at0 os 4) 0) h (yI (at0 os 4) 0) (yo (at0 os 5)) (qB (at0 os 3)) (yo (at0 os 6)) (qhO (at0 os 3)) k (qe c 1)
noncomputable def yU (p:T4) (k:Nat) (c:Code) (os:List Obj):Ctr:=rstrB p (qg6 (at0 os 1)) k (jR (itm (at0 os 2) 0)) (qB (at0 os 2)) (zM (at0 os 4) 0) (yI (at0 os 4) 0) (yo (at0 os 5)) (qB (at0 os 3)) (yo (at0 os 6)) (wK (at0 os 7)) (qe c 1)
noncomputable def yh (k:Nat) (c:Code):Ctr:=qqh (qti c 1) k (qe c 0) (qe c 1)
noncomputable def zc (x y:U2) (c:Code):Ctr:=zW "str.__add__" ⟨[.str x (qe c 0), .str y (qe c 1)],[]⟩ λv => .str (x++y) v
noncomputable def yg (p:T4) (h:Int) (c:Code):Ctr:=qkN p h (qe c 0) (qe c 1) (qe c 2) (qe c 3)
noncomputable def sT:U2:=⟨#[47,32,120]⟩
noncomputable def qj6 (p:T4) (fd:T5) (F:Nat) (name:U2) (tn:U1) (dv:Nat) (left:Int) (m lv:Nat) (ss:List U2):Ctr where
 code ads:=jG fd F (adF ads 0 1) (adF ads 0 0) (adF ads 0 2) (adF ads 0 3)
 ok ads:=[]
 pre ads:=[yM dv,zl (.str name tn),zx 0 left,qd [] lv]
 res ads ν := .done (.ok .next)
 post ads ν:=[dict1 p sK (ν 3) (.int (E3 m) (ν 4)) (dv+1),zl (.str name tn),zx (E3 (1+m)) (E3 0),qd (strsT (name::ss) (tn::nuT ν ss.length)) (lv+1+ss.length)]
 news ads ν:=[]
 frz:=[]
theorem qU {F:Nat} {name:U2} {tn:U1} {dv:Nat} {left:Int} {m lv:Nat} {ss:List U2} (hl:left=E3 (m+1)) (hm:m≤900) (h0:qG name (kPs 0)=true) (ho:vg name 1 m=true) (he:zr name 1 m=ss):VC w 1 (qj6 w.params (fdE w.params) F name tn dv left m lv ss):=by
 subst he
 exact qfq hl hm h0 ho
noncomputable def qkP (n:Int) (t u v:U1):Obj:=⟨.type "range",none, .fields #[.int 0 t, .int n u, .int 1 v],#[]⟩
noncomputable def qew (n:Int) (t u v:U1) (left:Int):Ctr where
 code ads := .builtin "range.__iter__" ⟨[.ref (adF ads 0 0)],[]⟩
 ok ads:=[]
 pre ads:=[qkP n t u v]
 res ads ν := .done (.ok (.ret (.ref (ν 3))))
 post ads ν:=[qkP n t u v]
 news ads ν:=[zx 0 left]
 frz:=[]
 fside:=some λ_=>n=left∧0≤left∧left≤1000
theorem qjj:plainId "range.__iter__"=true:=by decide +kernel
theorem qdE {i:Int} (h0:0≤i) (h1:i≤1001):Builtin.Range.rangeFitsLong i=true:=by
 unfold Builtin.Range.rangeFitsLong
 rw [decide_eq_true (by lia),decide_eq_true (by lia)]
 rfl
theorem qmm {n:Int} (h0:0≤n):Builtin.Range.rangeSize 0 n 1=n:=by
 unfold Builtin.Range.rangeSize
 rw [if_pos (by decide)]
 split
 ·rw [Int.ediv_one];lia
 ·lia
theorem qR {lev:Nat} {n:Int} {t u v:U1} {left:Int}:VC w lev (qew n t u v left):=by
 intro A ads s R h0 hd hu hkt hok hnd hoff hob hfz hbare hfin
 obtain ⟨a,rfl⟩:∃a,ads=[a]:=by
  match ads,hob with
  | [a],_=>exact ⟨a,rfl⟩
 obtain ⟨ks,⟨e1,e2,e3⟩,_⟩:=hfz
 subst e1
 have ho:s.heap.get? a=some (qkP n t u v):=hob.1
 have c:(Builtin.Range.rangeFitsLong 0&&Builtin.Range.rangeFitsLong n&&Builtin.Range.rangeFitsLong 1&&Builtin.Range.rangeFitsLong (Builtin.Range.rangeSize 0 n 1)&&(Builtin.Range.rangeSize 0 n 1==0||if (1:Int)>0 then Builtin.Range.rangeFitsLong (n+(1-1)) else Builtin.Range.rangeFitsLong (n+(1+1))))=true:=by
  rw [qmm e2,qdE (R8 0) (by decide),qdE e2 (by lia),qdE (by decide) (by decide),if_pos (by decide),qdE (by lia) (by lia),M4]
  rfl
 refine codeAny_builtin PySem.F.entry_range_iter ?_
 rw [G4 qjj]
 refine PySem.AutoRange.range___iter___range_1 a 0 n 1 t u v (by rw [c];decide) prog w A R s ⟨ho,?_⟩
 rw [c,qmm e2]
 refine hfin (nu (s.heap.objs.size+1) s.toks s.gens.size [s.heap.objs.size]) _ ⟨⟨E8 _ ho,trivial⟩,⟨I4 _ rfl,trivial⟩,?_,?_,λb o e _=>E8 _ e,N9 _,?_,rfl,rfl,F4 _,λ_ _=>rfl,hbare,rfl,rfl,λk hk=>nomatch hk⟩
 ·exact F3.mpr ⟨(λh=>nomatch h),F8⟩
 ·intro b hb
  rcases E2.mp hb with rfl | hb
  ·exact F4 _
  ·cases hb
 ·show (s.heap.push _).objs.size=s.heap.objs.size+1
  exact K4 _
noncomputable def qhW (c:Code):Nat:=match c with
 | .compLoop _ _ _ _ env=>match env.frame with
  | some F=>F
  | none=>0
 | _=>0
noncomputable def dcN (o:Obj):Nat:=match o.data with
 | .dict _ n=>n
 | _=>0
noncomputable def qmC (o:Obj):T1:=match o.data with
 | .cell v=>match v with
  | some v=>v
  | none => .none
 | _ => .none
noncomputable def qtj (o:Obj) (i:Nat):Int:=match o.data with
 | .fields vs=>match lGet vs.toList i with
  | some v=>qD v
  | none=>0
 | _=>0
noncomputable def zB (p:T4) (fd:T5) (name:U2) (m:Nat) (ss:List U2) (c:Code) (os:List Obj):Ctr:=qj6 p fd (qhW c) name (jR (qmC (at0 os 1))) (dcN (at0 os 0)) (E3 (m+1)) m (qB (at0 os 3)) ss
noncomputable def qbz (o:Obj) (i:Nat):U1:=match o.data with
 | .fields vs=>match lGet vs.toList i with
  | some v=>jR v
  | none=>0
 | _=>0
noncomputable def zq (left:Int) (os:List Obj):Ctr:=qew (qtj (at0 os 0) 1) (qbz (at0 os 0) 0) (qbz (at0 os 0) 1) (qbz (at0 os 0) 2) left
noncomputable def endsX (name:U2) (t:U1) (l:Nat) (u:U1) (rs:List U2):Ctr where
 code ads := .call (.ref 260) ⟨[.str name t, .int (E3 l) u],[]⟩
 ok ads:=[]
 pre ads:=[]
 res ads ν := .done (.ok (.ret (.ref (ν 3))))
 post ads ν:=[]
 news ads ν:=[qd (strsT (name::rs) (t::nuT ν rs.length)) 0]
 frz:=[]
noncomputable def y0 (n:Nat) (left:Int):Prop:=(n:Int)=left∧0≤left∧left≤1000
noncomputable def zb:List Nat:=hx 0x111f07d0f05d50006d004d3f03d21f2001d002d000d
theorem qoG (name:U2) (t u:U1) (m:Nat):RunF w (endsX name t 0 u []) 0 120 [] [7] zb [(1, .bool false)] [(cX 12 (λc os=>zq (E3 (m+1)) os) [2]),(cX 1 (λc os=>zB w.params (fdE w.params) name m [] c os) [5,1,3,4])] (λ_ _ _ _=>[qGe (name.length:Int) (2 ^ 63) false]) (λa N t0 gN=>adF [a.c 1 0+1] 0) (λ_ _ _ _=>[y0 name.length (E3 (m+1))]):=λN t0 gN a x' y' z'=>by
 kernel_rfl
theorem qoF (name:U2) (s1:U2) (t u:U1) (m:Nat):RunF w (endsX name t 0 u []) 0 120 [] [7] zb [(1, .bool false)] [(cX 12 (λc os=>zq (E3 (m+1)) os) [2]),(cX 1 (λc os=>zB w.params (fdE w.params) name m [s1] c os) [5,1,3,4])] (λ_ _ _ _=>[qGe (name.length:Int) (2 ^ 63) false]) (λa N t0 gN=>adF [a.c 1 0+1] 0) (λ_ _ _ _=>[y0 name.length (E3 (m+1))]):=λN t0 gN a x' y' z'=>by
 kernel_rfl
theorem qoE (name:U2) (s1:U2) (t u:U1) (m:Nat):RunF w (endsX name t 1 u [s1]) 0 120 [] [7] zb [(1, .bool false)] [(cX 12 (λc os=>zq (E3 (m+1)) os) [2]),(cX 1 (λc os=>zB w.params (fdE w.params) name m [s1] c os) [5,1,3,4])] (λ_ _ _ _=>[qGe (name.length:Int) (2 ^ 63) false]) (λa N t0 gN=>adF [a.c 1 0+1,0,0,0,0,0,0,0,0,0,0,0,0,0,0,0,0,a.c 1 20] 0) (λ_ _ _ _=>[y0 name.length (E3 (m+1))]):=λN t0 gN a x' y' z'=>by
 kernel_rfl
theorem qoD (name:U2) (s1 s2:U2) (t u:U1) (m:Nat):RunF w (endsX name t 1 u [s1]) 0 120 [] [7] zb [(1, .bool false)] [(cX 12 (λc os=>zq (E3 (m+1)) os) [2]),(cX 1 (λc os=>zB w.params (fdE w.params) name m [s1,s2] c os) [5,1,3,4])] (λ_ _ _ _=>[qGe (name.length:Int) (2 ^ 63) false]) (λa N t0 gN=>adF [a.c 1 0+1,0,0,0,0,0,0,0,0,0,0,0,0,0,0,0,0,a.c 1 20] 0) (λ_ _ _ _=>[y0 name.length (E3 (m+1))]):=λN t0 gN a x' y' z'=>by
 kernel_rfl
theorem qoC (name:U2) (s1 s2:U2) (t u:U1) (m:Nat):RunF w (endsX name t 2 u [s1,s2]) 0 120 [] [7] zb [(1, .bool false)] [(cX 12 (λc os=>zq (E3 (m+1)) os) [2]),(cX 1 (λc os=>zB w.params (fdE w.params) name m [s1,s2] c os) [5,1,3,4])] (λ_ _ _ _=>[qGe (name.length:Int) (2 ^ 63) false]) (λa N t0 gN=>adF [a.c 1 0+1,0,0,0,0,0,0,0,0,0,0,0,0,0,0,0,0,a.c 1 20,a.c 1 21] 0) (λ_ _ _ _=>[y0 name.length (E3 (m+1))]):=λN t0 gN a x' y' z'=>by
 kernel_rfl
theorem qoB (name:U2) (s1 s2 s3:U2) (t u:U1) (m:Nat):RunF w (endsX name t 2 u [s1,s2]) 0 120 [] [7] zb [(1, .bool false)] [(cX 12 (λc os=>zq (E3 (m+1)) os) [2]),(cX 1 (λc os=>zB w.params (fdE w.params) name m [s1,s2,s3] c os) [5,1,3,4])] (λ_ _ _ _=>[qGe (name.length:Int) (2 ^ 63) false]) (λa N t0 gN=>adF [a.c 1 0+1,0,0,0,0,0,0,0,0,0,0,0,0,0,0,0,0,a.c 1 20,a.c 1 21] 0) (λ_ _ _ _=>[y0 name.length (E3 (m+1))]):=λN t0 gN a x' y' z'=>by
 kernel_rfl
theorem qoA (name:U2) (s1 s2 s3:U2) (t u:U1) (m:Nat):RunF w (endsX name t 3 u [s1,s2,s3]) 0 120 [] [7] zb [(1, .bool false)] [(cX 12 (λc os=>zq (E3 (m+1)) os) [2]),(cX 1 (λc os=>zB w.params (fdE w.params) name m [s1,s2,s3] c os) [5,1,3,4])] (λ_ _ _ _=>[qGe (name.length:Int) (2 ^ 63) false]) (λa N t0 gN=>adF [a.c 1 0+1,0,0,0,0,0,0,0,0,0,0,0,0,0,0,0,0,a.c 1 20,a.c 1 21,a.c 1 22] 0) (λ_ _ _ _=>[y0 name.length (E3 (m+1))]):=λN t0 gN a x' y' z'=>by
 kernel_rfl
theorem qoz (name:U2) (s1 s2 s3 s4:U2) (t u:U1) (m:Nat):RunF w (endsX name t 3 u [s1,s2,s3]) 0 120 [] [7] zb [(1, .bool false)] [(cX 12 (λc os=>zq (E3 (m+1)) os) [2]),(cX 1 (λc os=>zB w.params (fdE w.params) name m [s1,s2,s3,s4] c os) [5,1,3,4])] (λ_ _ _ _=>[qGe (name.length:Int) (2 ^ 63) false]) (λa N t0 gN=>adF [a.c 1 0+1,0,0,0,0,0,0,0,0,0,0,0,0,0,0,0,0,a.c 1 20,a.c 1 21,a.c 1 22] 0) (λ_ _ _ _=>[y0 name.length (E3 (m+1))]):=λN t0 gN a x' y' z'=>by
 kernel_rfl
theorem qoy (name:U2) (s1 s2 s3 s4:U2) (t u:U1) (m:Nat):RunF w (endsX name t 4 u [s1,s2,s3,s4]) 0 120 [] [7] zb [(1, .bool false)] [(cX 12 (λc os=>zq (E3 (m+1)) os) [2]),(cX 1 (λc os=>zB w.params (fdE w.params) name m [s1,s2,s3,s4] c os) [5,1,3,4])] (λ_ _ _ _=>[qGe (name.length:Int) (2 ^ 63) false]) (λa N t0 gN=>adF [a.c 1 0+1,0,0,0,0,0,0,0,0,0,0,0,0,0,0,0,0,a.c 1 20,a.c 1 21,a.c 1 22,a.c 1 23] 0) (λ_ _ _ _=>[y0 name.length (E3 (m+1))]):=λN t0 gN a x' y' z'=>by
 kernel_rfl
theorem qox (name:U2) (s1 s2 s3 s4 s5:U2) (t u:U1) (m:Nat):RunF w (endsX name t 4 u [s1,s2,s3,s4]) 0 120 [] [7] zb [(1, .bool false)] [(cX 12 (λc os=>zq (E3 (m+1)) os) [2]),(cX 1 (λc os=>zB w.params (fdE w.params) name m [s1,s2,s3,s4,s5] c os) [5,1,3,4])] (λ_ _ _ _=>[qGe (name.length:Int) (2 ^ 63) false]) (λa N t0 gN=>adF [a.c 1 0+1,0,0,0,0,0,0,0,0,0,0,0,0,0,0,0,0,a.c 1 20,a.c 1 21,a.c 1 22,a.c 1 23] 0) (λ_ _ _ _=>[y0 name.length (E3 (m+1))]):=λN t0 gN a x' y' z'=>by
 kernel_rfl
theorem qow (name:U2) (s1 s2 s3 s4 s5:U2) (t u:U1) (m:Nat):RunF w (endsX name t 5 u [s1,s2,s3,s4,s5]) 0 120 [] [7] zb [(1, .bool false)] [(cX 12 (λc os=>zq (E3 (m+1)) os) [2]),(cX 1 (λc os=>zB w.params (fdE w.params) name m [s1,s2,s3,s4,s5] c os) [5,1,3,4])] (λ_ _ _ _=>[qGe (name.length:Int) (2 ^ 63) false]) (λa N t0 gN=>adF [a.c 1 0+1,0,0,0,0,0,0,0,0,0,0,0,0,0,0,0,0,a.c 1 20,a.c 1 21,a.c 1 22,a.c 1 23,a.c 1 24] 0) (λ_ _ _ _=>[y0 name.length (E3 (m+1))]):=λN t0 gN a x' y' z'=>by
 kernel_rfl
theorem qov (name:U2) (s1 s2 s3 s4 s5 s6:U2) (t u:U1) (m:Nat):RunF w (endsX name t 5 u [s1,s2,s3,s4,s5]) 0 120 [] [7] zb [(1, .bool false)] [(cX 12 (λc os=>zq (E3 (m+1)) os) [2]),(cX 1 (λc os=>zB w.params (fdE w.params) name m [s1,s2,s3,s4,s5,s6] c os) [5,1,3,4])] (λ_ _ _ _=>[qGe (name.length:Int) (2 ^ 63) false]) (λa N t0 gN=>adF [a.c 1 0+1,0,0,0,0,0,0,0,0,0,0,0,0,0,0,0,0,a.c 1 20,a.c 1 21,a.c 1 22,a.c 1 23,a.c 1 24] 0) (λ_ _ _ _=>[y0 name.length (E3 (m+1))]):=λN t0 gN a x' y' z'=>by
 kernel_rfl
theorem qou (name:U2) (s1 s2 s3 s4 s5 s6:U2) (t u:U1) (m:Nat):RunF w (endsX name t 6 u [s1,s2,s3,s4,s5,s6]) 0 120 [] [7] zb [(1, .bool false)] [(cX 12 (λc os=>zq (E3 (m+1)) os) [2]),(cX 1 (λc os=>zB w.params (fdE w.params) name m [s1,s2,s3,s4,s5,s6] c os) [5,1,3,4])] (λ_ _ _ _=>[qGe (name.length:Int) (2 ^ 63) false]) (λa N t0 gN=>adF [a.c 1 0+1,0,0,0,0,0,0,0,0,0,0,0,0,0,0,0,0,a.c 1 20,a.c 1 21,a.c 1 22,a.c 1 23,a.c 1 24,a.c 1 25] 0) (λ_ _ _ _=>[y0 name.length (E3 (m+1))]):=λN t0 gN a x' y' z'=>by
 kernel_rfl
theorem qot (name:U2) (s1 s2 s3 s4 s5 s6 s7:U2) (t u:U1) (m:Nat):RunF w (endsX name t 6 u [s1,s2,s3,s4,s5,s6]) 0 120 [] [7] zb [(1, .bool false)] [(cX 12 (λc os=>zq (E3 (m+1)) os) [2]),(cX 1 (λc os=>zB w.params (fdE w.params) name m [s1,s2,s3,s4,s5,s6,s7] c os) [5,1,3,4])] (λ_ _ _ _=>[qGe (name.length:Int) (2 ^ 63) false]) (λa N t0 gN=>adF [a.c 1 0+1,0,0,0,0,0,0,0,0,0,0,0,0,0,0,0,0,a.c 1 20,a.c 1 21,a.c 1 22,a.c 1 23,a.c 1 24,a.c 1 25] 0) (λ_ _ _ _=>[y0 name.length (E3 (m+1))]):=λN t0 gN a x' y' z'=>by
 kernel_rfl
structure zo (name:U2) (m:Nat) (ss:List U2):Prop where
 len:name.length=m+1
 le:m≤900
 whole:qG name (kPs 0)=true
 ok:vg name 1 m=true
 eq:zr name 1 m=ss
theorem qok {name:U2} {t u:U1} {m:Nat} (h:zo name m []):VC w 2 (endsX name t 0 u []):=by
 have h1:=h.len
 have h2:=h.le
 refine q8 0 λads hl hok => ?_
 obtain rfl:=E5 hl
 exact (qI.mk9 (qoG name t u m) (qa (λ_ _=>qR) (qa (λ_ _=>qU rfl h.le h.whole h.ok h.eq) B0)) ((λ_ _ _ _ p hp=>by rcases E2.mp hp with rfl | hp;exact vb (decide_eq_false (by lia));cases hp)) (λ_ _ _ _ P hP=>by rcases E2.mp hP with rfl | hP;exact ⟨by rw [h1];rfl,by simp only [E6];lia,by simp only [E6];lia⟩;cases hP))
theorem qoj {name:U2} {s1:U2} {t u:U1} {m:Nat} (h:zo name m [s1]):VC w 2 (endsX name t 0 u []):=by
 have h1:=h.len
 have h2:=h.le
 refine q8 0 λads hl hok => ?_
 obtain rfl:=E5 hl
 exact (qI.mk9 (qoF name s1 t u m) (qa (λ_ _=>qR) (qa (λ_ _=>qU rfl h.le h.whole h.ok h.eq) B0)) ((λ_ _ _ _ p hp=>by rcases E2.mp hp with rfl | hp;exact vb (decide_eq_false (by lia));cases hp)) (λ_ _ _ _ P hP=>by rcases E2.mp hP with rfl | hP;exact ⟨by rw [h1];rfl,by simp only [E6];lia,by simp only [E6];lia⟩;cases hP))
theorem qoi {name:U2} {s1:U2} {t u:U1} {m:Nat} (h:zo name m [s1]):VC w 2 (endsX name t 1 u [s1]):=by
 have h1:=h.len
 have h2:=h.le
 refine q8 0 λads hl hok => ?_
 obtain rfl:=E5 hl
 exact (qI.mk9 (qoE name s1 t u m) (qa (λ_ _=>qR) (qa (λ_ _=>qU rfl h.le h.whole h.ok h.eq) B0)) ((λ_ _ _ _ p hp=>by rcases E2.mp hp with rfl | hp;exact vb (decide_eq_false (by lia));cases hp)) (λ_ _ _ _ P hP=>by rcases E2.mp hP with rfl | hP;exact ⟨by rw [h1];rfl,by simp only [E6];lia,by simp only [E6];lia⟩;cases hP))
theorem qoh {name:U2} {s1 s2:U2} {t u:U1} {m:Nat} (h:zo name m [s1,s2]):VC w 2 (endsX name t 1 u [s1]):=by
 have h1:=h.len
 have h2:=h.le
 refine q8 0 λads hl hok => ?_
 obtain rfl:=E5 hl
 exact (qI.mk9 (qoD name s1 s2 t u m) (qa (λ_ _=>qR) (qa (λ_ _=>qU rfl h.le h.whole h.ok h.eq) B0)) ((λ_ _ _ _ p hp=>by rcases E2.mp hp with rfl | hp;exact vb (decide_eq_false (by lia));cases hp)) (λ_ _ _ _ P hP=>by rcases E2.mp hP with rfl | hP;exact ⟨by rw [h1];rfl,by simp only [E6];lia,by simp only [E6];lia⟩;cases hP))
theorem qog {name:U2} {s1 s2:U2} {t u:U1} {m:Nat} (h:zo name m [s1,s2]):VC w 2 (endsX name t 2 u [s1,s2]):=by
 have h1:=h.len
 have h2:=h.le
 refine q8 0 λads hl hok => ?_
 obtain rfl:=E5 hl
 exact (qI.mk9 (qoC name s1 s2 t u m) (qa (λ_ _=>qR) (qa (λ_ _=>qU rfl h.le h.whole h.ok h.eq) B0)) ((λ_ _ _ _ p hp=>by rcases E2.mp hp with rfl | hp;exact vb (decide_eq_false (by lia));cases hp)) (λ_ _ _ _ P hP=>by rcases E2.mp hP with rfl | hP;exact ⟨by rw [h1];rfl,by simp only [E6];lia,by simp only [E6];lia⟩;cases hP))
theorem qof {name:U2} {s1 s2 s3:U2} {t u:U1} {m:Nat} (h:zo name m [s1,s2,s3]):VC w 2 (endsX name t 2 u [s1,s2]):=by
 have h1:=h.len
 have h2:=h.le
 refine q8 0 λads hl hok => ?_
 obtain rfl:=E5 hl
 exact (qI.mk9 (qoB name s1 s2 s3 t u m) (qa (λ_ _=>qR) (qa (λ_ _=>qU rfl h.le h.whole h.ok h.eq) B0)) ((λ_ _ _ _ p hp=>by rcases E2.mp hp with rfl | hp;exact vb (decide_eq_false (by lia));cases hp)) (λ_ _ _ _ P hP=>by rcases E2.mp hP with rfl | hP;exact ⟨by rw [h1];rfl,by simp only [E6];lia,by simp only [E6];lia⟩;cases hP))
theorem qoe {name:U2} {s1 s2 s3:U2} {t u:U1} {m:Nat} (h:zo name m [s1,s2,s3]):VC w 2 (endsX name t 3 u [s1,s2,s3]):=by
 have h1:=h.len
 have h2:=h.le
 refine q8 0 λads hl hok => ?_
 obtain rfl:=E5 hl
 exact (qI.mk9 (qoA name s1 s2 s3 t u m) (qa (λ_ _=>qR) (qa (λ_ _=>qU rfl h.le h.whole h.ok h.eq) B0)) ((λ_ _ _ _ p hp=>by rcases E2.mp hp with rfl | hp;exact vb (decide_eq_false (by lia));cases hp)) (λ_ _ _ _ P hP=>by rcases E2.mp hP with rfl | hP;exact ⟨by rw [h1];rfl,by simp only [E6];lia,by simp only [E6];lia⟩;cases hP))
theorem qod {name:U2} {s1 s2 s3 s4:U2} {t u:U1} {m:Nat} (h:zo name m [s1,s2,s3,s4]):VC w 2 (endsX name t 3 u [s1,s2,s3]):=by
 have h1:=h.len
 have h2:=h.le
 refine q8 0 λads hl hok => ?_
 obtain rfl:=E5 hl
 exact (qI.mk9 (qoz name s1 s2 s3 s4 t u m) (qa (λ_ _=>qR) (qa (λ_ _=>qU rfl h.le h.whole h.ok h.eq) B0)) ((λ_ _ _ _ p hp=>by rcases E2.mp hp with rfl | hp;exact vb (decide_eq_false (by lia));cases hp)) (λ_ _ _ _ P hP=>by rcases E2.mp hP with rfl | hP;exact ⟨by rw [h1];rfl,by simp only [E6];lia,by simp only [E6];lia⟩;cases hP))
theorem qoc {name:U2} {s1 s2 s3 s4:U2} {t u:U1} {m:Nat} (h:zo name m [s1,s2,s3,s4]):VC w 2 (endsX name t 4 u [s1,s2,s3,s4]):=by
 have h1:=h.len
 have h2:=h.le
 refine q8 0 λads hl hok => ?_
 obtain rfl:=E5 hl
 exact (qI.mk9 (qoy name s1 s2 s3 s4 t u m) (qa (λ_ _=>qR) (qa (λ_ _=>qU rfl h.le h.whole h.ok h.eq) B0)) ((λ_ _ _ _ p hp=>by rcases E2.mp hp with rfl | hp;exact vb (decide_eq_false (by lia));cases hp)) (λ_ _ _ _ P hP=>by rcases E2.mp hP with rfl | hP;exact ⟨by rw [h1];rfl,by simp only [E6];lia,by simp only [E6];lia⟩;cases hP))
theorem qob {name:U2} {s1 s2 s3 s4 s5:U2} {t u:U1} {m:Nat} (h:zo name m [s1,s2,s3,s4,s5]):VC w 2 (endsX name t 4 u [s1,s2,s3,s4]):=by
 have h1:=h.len
 have h2:=h.le
 refine q8 0 λads hl hok => ?_
 obtain rfl:=E5 hl
 exact (qI.mk9 (qox name s1 s2 s3 s4 s5 t u m) (qa (λ_ _=>qR) (qa (λ_ _=>qU rfl h.le h.whole h.ok h.eq) B0)) ((λ_ _ _ _ p hp=>by rcases E2.mp hp with rfl | hp;exact vb (decide_eq_false (by lia));cases hp)) (λ_ _ _ _ P hP=>by rcases E2.mp hP with rfl | hP;exact ⟨by rw [h1];rfl,by simp only [E6];lia,by simp only [E6];lia⟩;cases hP))
theorem qoa {name:U2} {s1 s2 s3 s4 s5:U2} {t u:U1} {m:Nat} (h:zo name m [s1,s2,s3,s4,s5]):VC w 2 (endsX name t 5 u [s1,s2,s3,s4,s5]):=by
 have h1:=h.len
 have h2:=h.le
 refine q8 0 λads hl hok => ?_
 obtain rfl:=E5 hl
 exact (qI.mk9 (qow name s1 s2 s3 s4 s5 t u m) (qa (λ_ _=>qR) (qa (λ_ _=>qU rfl h.le h.whole h.ok h.eq) B0)) ((λ_ _ _ _ p hp=>by rcases E2.mp hp with rfl | hp;exact vb (decide_eq_false (by lia));cases hp)) (λ_ _ _ _ P hP=>by rcases E2.mp hP with rfl | hP;exact ⟨by rw [h1];rfl,by simp only [E6];lia,by simp only [E6];lia⟩;cases hP))
theorem qn9 {name:U2} {s1 s2 s3 s4 s5 s6:U2} {t u:U1} {m:Nat} (h:zo name m [s1,s2,s3,s4,s5,s6]):VC w 2 (endsX name t 5 u [s1,s2,s3,s4,s5]):=by
 have h1:=h.len
 have h2:=h.le
 refine q8 0 λads hl hok => ?_
 obtain rfl:=E5 hl
 exact (qI.mk9 (qov name s1 s2 s3 s4 s5 s6 t u m) (qa (λ_ _=>qR) (qa (λ_ _=>qU rfl h.le h.whole h.ok h.eq) B0)) ((λ_ _ _ _ p hp=>by rcases E2.mp hp with rfl | hp;exact vb (decide_eq_false (by lia));cases hp)) (λ_ _ _ _ P hP=>by rcases E2.mp hP with rfl | hP;exact ⟨by rw [h1];rfl,by simp only [E6];lia,by simp only [E6];lia⟩;cases hP))
theorem qn8 {name:U2} {s1 s2 s3 s4 s5 s6:U2} {t u:U1} {m:Nat} (h:zo name m [s1,s2,s3,s4,s5,s6]):VC w 2 (endsX name t 6 u [s1,s2,s3,s4,s5,s6]):=by
 have h1:=h.len
 have h2:=h.le
 refine q8 0 λads hl hok => ?_
 obtain rfl:=E5 hl
 exact (qI.mk9 (qou name s1 s2 s3 s4 s5 s6 t u m) (qa (λ_ _=>qR) (qa (λ_ _=>qU rfl h.le h.whole h.ok h.eq) B0)) ((λ_ _ _ _ p hp=>by rcases E2.mp hp with rfl | hp;exact vb (decide_eq_false (by lia));cases hp)) (λ_ _ _ _ P hP=>by rcases E2.mp hP with rfl | hP;exact ⟨by rw [h1];rfl,by simp only [E6];lia,by simp only [E6];lia⟩;cases hP))
theorem qn7 {name:U2} {s1 s2 s3 s4 s5 s6 s7:U2} {t u:U1} {m:Nat} (h:zo name m [s1,s2,s3,s4,s5,s6,s7]):VC w 2 (endsX name t 6 u [s1,s2,s3,s4,s5,s6]):=by
 have h1:=h.len
 have h2:=h.le
 refine q8 0 λads hl hok => ?_
 obtain rfl:=E5 hl
 exact (qI.mk9 (qot name s1 s2 s3 s4 s5 s6 s7 t u m) (qa (λ_ _=>qR) (qa (λ_ _=>qU rfl h.le h.whole h.ok h.eq) B0)) ((λ_ _ _ _ p hp=>by rcases E2.mp hp with rfl | hp;exact vb (decide_eq_false (by lia));cases hp)) (λ_ _ _ _ P hP=>by rcases E2.mp hP with rfl | hP;exact ⟨by rw [h1];rfl,by simp only [E6];lia,by simp only [E6];lia⟩;cases hP))
theorem ug:plainId "list.__contains__"=true:=by decide +kernel
noncomputable def inC (vs:List T1) (n:Nat) (x:Int) (t:U1) (r:Bool):Ctr where
 code ads := .builtin "list.__contains__" ⟨[.ref (adF ads 0 0), .int x t],[]⟩
 ok ads:=[]
 pre ads:=[qd vs n]
 res ads ν := .done (.ok (.ret (.bool r)))
 post ads ν:=[qd vs n]
 news ads ν:=[]
 frz:=[]
 fside:=some λ_=>(∀v∈vs,∃i u,v = .int i u)∧vs.any (λv=>qD v==x)=r
theorem zg {lev:Nat} {vs:List T1} {n:Nat} {x:Int} {t:U1} {r:Bool}:VC w lev (inC vs n x t r):=by
 intro A ads s R h0 hd hu hkt hok hnd hoff hob hfz hbare hfin
 obtain ⟨a,rfl⟩:∃a,ads=[a]:=by
  match ads,hob with
  | [a],_=>exact ⟨a,rfl⟩
 obtain ⟨ks,⟨e1,e2⟩,_⟩:=hfz
 subst e2
 have ho:s.heap.get? a=some (qd vs n):=hob.1
 refine codeAny_builtin PySem.F.entry_list_contains ?_
 rw [G4 ug]
 refine PySem.SeqAt.list_containsAt a ⟨vs⟩ n none #[] (.int x t) (λv=>qD v==x) prog w A R s ⟨ho,λy hy => ?_,?_⟩
 ·obtain ⟨i,u,rfl⟩:=e1 y (by simpa using hy)
  exact λprog w E Q hq=>wpAny_eqBool_int hq
 ·have e:(⟨vs⟩:Array T1).any (λv=>qD v==x)=vs.any (λv=>qD v==x):=by simp
  rw [e]
  exact hfin (nu s.heap.objs.size s.toks s.gens.size []) _ ⟨hob,trivial,F8,(λa h=>nomatch h),λb o e _=>e,F4 _,rfl,rfl,rfl,F4 _,λ_ _=>rfl,hbare,rfl,rfl,λk hk=>nomatch hk⟩
theorem qhf:plainId "list.__add__"=true:=by decide +kernel
noncomputable def qmu (xs:List T1) (n:Nat) (ys:List T1) (m:Nat):Ctr where
 code ads := .builtin "list.__add__" ⟨[.ref (adF ads 0 0), .ref (adF ads 0 1)],[]⟩
 ok ads:=[]
 pre ads:=[qd xs n,qd ys m]
 res ads ν := .done (.ok (.ret (.ref (ν 3))))
 post ads ν:=[qd xs n,qd ys m]
 news ads ν:=[qd (xs++ys) 0]
 frz:=[]
 fside:=some λ_=>xs.length+ys.length≤1000
theorem qm {lev:Nat} {xs:List T1} {n:Nat} {ys:List T1} {m:Nat}:VC w lev (qmu xs n ys m):=by
 intro A ads s R h0 hd hu hkt hok hnd hoff hob hfz hbare hfin
 obtain ⟨a,b,rfl⟩:∃a b,ads=[a,b]:=by
  match ads,hob with
  | [a,b],_=>exact ⟨a,b,rfl⟩
 obtain ⟨ks,e1,_⟩:=hfz
 have ha:s.heap.get? a=some (qd xs n):=hob.1
 have hb:s.heap.get? b=some (qd ys m):=hob.2.1
 refine codeAny_builtin PySem.F.entry_list_add ?_
 rw [G4 qhf]
 refine PySem.AutoSeq1.list___add___list_list_0 a ⟨xs⟩ n b ⟨ys⟩ m (by show xs.length+ys.length≤sizeLine;unfold sizeLine;omega) prog w A R s ⟨ha,hb,?_⟩
 have e:((⟨xs⟩:Array T1)++(⟨ys⟩:Array T1))=⟨xs++ys⟩:=by simp
 rw [e]
 refine hfin (nu (s.heap.objs.size+1) s.toks s.gens.size [s.heap.objs.size]) _ ⟨⟨E8 _ ha,E8 _ hb,trivial⟩,⟨I4 _ rfl,trivial⟩,?_,?_,λb o e _=>E8 _ e,N9 _,?_,rfl,rfl,F4 _,λ_ _=>rfl,hbare,rfl,rfl,λk hk=>nomatch hk⟩
 ·exact F3.mpr ⟨(λh=>nomatch h),F8⟩
 ·intro b hb
  rcases E2.mp hb with rfl | hb
  ·exact F4 _
  ·cases hb
 ·show (s.heap.push _).objs.size=s.heap.objs.size+1
  exact K4 _
theorem qbZ:plainId "list.__getitem__"=true:=by decide +kernel
noncomputable def qkL (l u st:T1):Obj:=⟨.type "slice",none, .fields #[l,u,st],#[]⟩
noncomputable def qgn (xs:List T1) (n:Nat) (vl vu vs:T1) (ys:List T1) (lo hi st:Option Int):Ctr where
 code ads := .builtin "list.__getitem__" ⟨[.ref (adF ads 0 0), .ref (adF ads 0 1)],[]⟩
 ok ads:=[]
 pre ads:=[qd xs n,qkL vl vu vs]
 res ads ν := .done (.ok (.ret (.ref (ν 3))))
 post ads ν:=[qd xs n,qkL vl vu vs]
 news ads ν:=[qd ys 0]
 frz:=[]
 fside:=some λ_=>xs.length≤1000∧IsPart vl lo∧IsPart vu hi∧IsPart vs st∧st≠some 0∧slicePick ⟨xs⟩ lo hi st=⟨ys⟩
theorem qeN {lev:Nat} {xs:List T1} {n:Nat} {vl vu vs:T1} {ys:List T1} {lo hi st:Option Int}:VC w lev (qgn xs n vl vu vs ys lo hi st):=by
 intro A ads s R h0 hd hu hkt hok hnd hoff hob hfz hbare hfin
 obtain ⟨a,b,rfl⟩:∃a b,ads=[a,b]:=by
  match ads,hob with
  | [a,b],_=>exact ⟨a,b,rfl⟩
 obtain ⟨ks,⟨e1,pl,pu,ps,e0,ey⟩,_⟩:=hfz
 have ha:s.heap.get? a=some (qd xs n):=hob.1
 have hb:s.heap.get? b=some (qkL vl vu vs):=hob.2.1
 have hl:s.heap.IsList a ⟨xs⟩:=⟨_,ha,rfl,n,rfl⟩
 have hTs:s.TypeIs (.ref b) "slice":=⟨_,hb,rfl⟩
 refine codeAny_builtin PySem.F.entry_list_getitem ?_
 rw [G4 qbZ]
 show wpAny _ _ (Builtin.List.listSubscript? (.ref b) >>= _) _ _ s
 refine T9 ?_
 unfold Builtin.List.listSubscript?
 refine T9 (wpAny_specialOf hTs slice_no_index ?_)
 simp only [Option.isNone_none,if_true]
 refine wpAny_pure ?_
 show wpAny _ _ (typeOf (.ref b) >>= _) _ _ s
 refine T9 (wpAny_typeOf hTs ?_)
 rw [if_neg (by decide)]
 rw [listSliceParts_eq]
 have hstep:¬((rawPart st==rawInt 0)=true):=by
  cases st with
  | none=>exact F7
  | some c =>
   intro hh
   have:c=0:=by simpa [rawPart,rawInt] using hh
   exact e0 (by rw [this])
 refine T9 (T9 (wpAny_field hb rfl (x:=vs) rfl (T9 (wpAny_listPart ps ?_))))
 rw [if_neg hstep]
 refine T9 (wpAny_field hb rfl (x:=vl) rfl (T9 (wpAny_listPart pl ?_)))
 refine T9 (wpAny_field hb rfl (x:=vu) rfl (T9 (wpAny_listPart pu (wpAny_pure ?_))))
 refine T9 (m:=Builtin.List.listItems (.ref a)) ?_
 unfold Builtin.List.listItems
 refine T9 (wpAny_seqItems ha rfl (wpAny_pure ?_))
 refine T9 (wpAny_of_eq (sliceIndices_raw lo hi st (⟨xs⟩:Array T1).size e0) ?_)
 refine T9 (wpAny_newObj_type (wpAny_pure ?_) (E7 (slicePick_size_le ⟨xs⟩ lo hi st) (by show xs.length≤sizeLine;unfold sizeLine;lia)))
 show R _ {s with heap:=s.heap.push {cls := .type "list",data := .seq (slicePick ⟨xs⟩ lo hi st)}}
 rw [ey]
 refine hfin (nu (s.heap.objs.size+1) s.toks s.gens.size [s.heap.objs.size]) _ ⟨⟨E8 _ ha,E8 _ hb,trivial⟩,⟨I4 _ rfl,trivial⟩,?_,?_,λb o e _=>E8 _ e,N9 _,?_,rfl,rfl,F4 _,λ_ _=>rfl,hbare,rfl,rfl,λk hk=>nomatch hk⟩
 ·exact F3.mpr ⟨(λh=>nomatch h),F8⟩
 ·intro b hb
  rcases E2.mp hb with rfl | hb
  ·exact F4 _
  ·cases hb
 ·show (s.heap.push _).objs.size=s.heap.objs.size+1
  exact K4 _
end
section
open Sem (wp)
variable {w:T3}
theorem qez:plainId "list_iterator.__next__"=true:=by decide +kernel
noncomputable def liO (L:Nat) (i:Int):Obj:=⟨.type "list_iterator",none, .fields #[.ref L, .int i 0],#[]⟩
noncomputable def liE (i:Int):Obj:=⟨.type "list_iterator",none, .fields #[.none, .int i 0],#[]⟩
noncomputable def jr (xs:List T1) (n:Nat) (i:Nat) (x:T1):Ctr where
 code ads := .builtin "list_iterator.__next__" ⟨[.ref (adF ads 0 0)],[]⟩
 ok _:=[]
 pre ads:=[liO (adF ads 0 1) (E3 i),qd xs n]
 res _ _ := .done (.ok (.ret x))
 post ads _:=[liO (adF ads 0 1) (E3 i+1),qd xs n]
 news _ _:=[]
 frz:=[]
theorem zm {lev:Nat} {xs:List T1} {n i:Nat} {x:T1} (hx:xs[i]? = some x):VC w lev (jr xs n i x):=by
 intro A ads s R h0 hd hu hkt hok hnd hoff hob hfz hbare hfin
 obtain ⟨a,b,rfl⟩:∃a b,ads=[a,b]:=by
  match ads,hob with
  | [a,b],_=>exact ⟨a,b,rfl⟩
 have ha:s.heap.get? a=some (liO b (E3 i)):=hob.1
 have hb:s.heap.get? b=some (qd xs n):=hob.2.1
 have hab:a≠b:=λe=>(F3.mp hnd).1 (e▸ .head _)
 refine codeAny_builtin entry_listiter_next ?_
 rw [G4 qez]
 show wpAny _ _ (field (.ref a) 0 >>= _) _ _ s
 refine T9 (wpAny_field ha rfl (x := .ref b) rfl ?_)
 show wpAny _ _ (if (Value.ref b==Value.none)=true then _ else _) _ _ s
 rw [if_neg (show ¬((Value.ref b==Value.none)=true) from F7)]
 show wpAny _ _ (field (.ref a) 1 >>= _) _ _ s
 refine T9 (wpAny_field ha rfl (x := .int (E3 i) 0) rfl ?_)
 show wpAny _ _ (seqItems? (.ref b) >>= _) _ _ s
 refine T9 (wpAny_seqItems hb rfl ?_)
 have hx':(⟨xs⟩:Array T1)[(E3 i).toNat]? = some x:=by simpa using hx
 simp only [hx']
 refine T9 (wpAny_setField ha rfl (by simp) (wpAny_pure ?_))
 have hs:N1 a s.heap (s.heap.update a (G9 (·.setIfInBounds 1 (rawInt (E3 i+1))))):=N1.update ..
 refine hfin (nu s.heap.objs.size s.toks s.gens.size []) {s with heap:=s.heap.update a (G9 (·.setIfInBounds 1 (rawInt (E3 i+1))))} ⟨⟨G2 _ ha rfl,(F9 _ _ hab).trans hb,trivial⟩,trivial,F8,(λa h=>nomatch h),λc o e hc=>(hs.2 c λq=>hc (q▸ .head _)).trans e,F4 _,hs.1,rfl,rfl,F4 _,λ_ _=>rfl,hbare,rfl,rfl,λk hk=>nomatch hk⟩
noncomputable def qgK (a:Nat):Obj:=⟨.type "StopIteration",none, .fields #[.ref a, .none, .none, .none, .bool false, .none],#[]⟩
noncomputable def va (xs:List T1) (n:Nat) (i:Nat):Ctr where
 code ads := .builtin "list_iterator.__next__" ⟨[.ref (adF ads 0 0)],[]⟩
 ok _:=[]
 pre ads:=[liO (adF ads 0 1) (E3 i),qd xs n]
 res _ ν := .done (.error (.ref (ν 3)))
 post ads _:=[liE (E3 i),qd xs n]
 news _ ν:=[qgK (ν 4)]
 frz:=[]
theorem j7 {lev:Nat} {xs:List T1} {n i:Nat} (hx:xs[i]? = none):VC w lev (va xs n i):=by
 intro A ads s R h0 hd hu hkt hok hnd hoff hob hfz hbare hfin
 obtain ⟨a,b,rfl⟩:∃a b,ads=[a,b]:=by
  match ads,hob with
  | [a,b],_=>exact ⟨a,b,rfl⟩
 have ha:s.heap.get? a=some (liO b (E3 i)):=hob.1
 have hb:s.heap.get? b=some (qd xs n):=hob.2.1
 have hab:a≠b:=λe=>(F3.mp hnd).1 (e▸ .head _)
 refine codeAny_builtin entry_listiter_next ?_
 rw [G4 qez]
 show wpAny _ _ (field (.ref a) 0 >>= _) _ _ s
 refine T9 (wpAny_field ha rfl (x := .ref b) rfl ?_)
 show wpAny _ _ (if (Value.ref b==Value.none)=true then _ else _) _ _ s
 rw [if_neg (show ¬((Value.ref b==Value.none)=true) from F7)]
 show wpAny _ _ (field (.ref a) 1 >>= _) _ _ s
 refine T9 (wpAny_field ha rfl (x := .int (E3 i) 0) rfl ?_)
 show wpAny _ _ (seqItems? (.ref b) >>= _) _ _ s
 refine T9 (wpAny_seqItems hb rfl ?_)
 have hx':(⟨xs⟩:Array T1)[(E3 i).toNat]? = none:=by simpa using hx
 simp only [hx']
 refine T9 (wpAny_rule (T9 (wpAny_setField ha rfl (by simp) ?_)))
 show wpAny _ _ (newExc (.type "StopIteration") [] >>= _) _ _ _
 refine T9 ?_
 simp only [newExc,newTuple]
 refine T9 (wpAny_newObj_type ?_ (by size_fits))
 refine T9 (m:=firstArgMember _ _) (wpAny_of_eq (a:=Value.none) (by first | rfl | (simp only [firstArgMember];rfl)) ?_)
 refine wpAny_newObj_type ?_ (by size_fits)
 simp only [raiseNew]
 refine T9 (wpAny_handled ?_)
 rw [show A.in1.handled=none from h0]
 refine T9 (wpAny_pure (wpAny_throw ?_))
 have eo:ownMembersOf (.type "StopIteration") [] = #[]:=by kernel_rfl
 rw [eo]
 have hs:N1 a s.heap (s.heap.update a (G9 (·.setIfInBounds 0 Value.none))):=N1.update ..
 have ha1:(s.heap.update a (G9 (·.setIfInBounds 0 Value.none))).get? a=some (liE (E3 i)):=G2 _ ha rfl
 show R (.error (.ref ((s.heap.update a (G9 (·.setIfInBounds 0 Value.none))).push _).objs.size)) {s with heap:=((s.heap.update a (G9 (·.setIfInBounds 0 Value.none))).push _).push (qgK (s.heap.update a (G9 (·.setIfInBounds 0 Value.none))).objs.size)}
 generalize s.heap.update a (G9 (·.setIfInBounds 0 Value.none))=h1 at hs ha1
 have z:=hfin (nu (h1.objs.size+2) s.toks s.gens.size [(h1.push {cls := .type "tuple",data := .seq #[]}).objs.size,h1.objs.size]) {s with heap:=(h1.push {cls := .type "tuple",data := .seq #[]}).push (qgK h1.objs.size)} ⟨⟨?_,?_,trivial⟩,⟨?_,trivial⟩,?_,?_,?_,?_,?_,rfl,rfl,F4 _,λ_ _=>rfl,hbare,rfl,rfl,λk hk=>nomatch hk⟩
 ·exact z
 ·exact E8 _ (E8 _ ha1)
 ·exact E8 _ (E8 _ ((hs.2 b (Ne.symm hab)).trans hb))
 ·exact I4 _ rfl
 ·exact F3.mpr ⟨(λh=>nomatch h),F8⟩
 ·intro c hc
  rcases E2.mp hc with rfl | hc
  ·show s.heap.objs.size≤(h1.push _).objs.size
   rw [J4,hs.1]
   exact N9 _
  ·cases hc
 ·intro c o e hc
  exact E8 _ (E8 _ ((hs.2 c λq=>hc (q▸ .head _)).trans e))
 ·show s.heap.objs.size≤h1.objs.size+2
  rw [hs.1]
  exact S4 _ _
 ·show ((h1.push _).push _).objs.size=h1.objs.size+2
  rw [J4,J4]
noncomputable def prO (a:Int) (ta:U1) (b:Int) (tb:U1):Obj:=⟨.type "tuple",none, .seq #[.int a ta, .int b tb] 0,#[]⟩
structure PT where
 a:Int
 ta:U1
 b:Int
 tb:U1
noncomputable def ptO (p:PT):Obj:=prO p.a p.ta p.b p.tb
noncomputable def wI (ads:List Nat) (k:Nat):Nat→List T1
 | 0=>[]
 | m+1 => .ref (adF ads 0 k)::wI ads (k+1) m
noncomputable def qqT (ps:List PT) (n:Nat) (x:Int) (tx:U1) (y:Int) (ty:U1) (r:Bool):Ctr where
 code ads := .builtin "list.__contains__" ⟨[.ref (adF ads 0 0), .ref (adF ads 0 1)],[]⟩
 ok _:=[]
 pre ads:=qd (wI ads 2 ps.length) n::prO x tx y ty::ps.map ptO
 res _ _ := .done (.ok (.ret (.bool r)))
 post ads _:=qd (wI ads 2 ps.length) n::prO x tx y ty::ps.map ptO
 news _ _:=[]
 frz:=[]
theorem jO (b:Nat) (l:List Nat):∀(m k:Nat),wI (b::l) (k+1) m=wI l k m
 | 0,k=>rfl
 | m+1,k=>congrArg (Value.ref (adF l 0 k) :: ·) (jO b l m (k+1))
theorem qct:∀(l:List Nat),wI l 0 l.length=l.map Value.ref
 | []=>rfl
 | a::l=>congrArg (Value.ref a :: ·) ((jO a l l.length 0).trans (qct l))
theorem qgg {h:Heap}:∀{as:List Nat} {ps:List PT},Objs h as (ps.map ptO)→∀a∈as,∃p∈ps,h.get? a=some (ptO p)
 | [],_,_,a,ha=>nomatch ha
 | x::as,p::ps,H,a,ha=>by
  rcases E2.mp ha with rfl | ha
  ·exact ⟨p, .head _,H.1⟩
  ·obtain ⟨q,hq,e⟩:=qgg H.2 a ha
   exact ⟨q, .tail _ hq,e⟩
 | _::_,[],H,_,_=>H.elim
noncomputable def qbm (h:Heap) (v:T1):PT:=match v with
 | .ref a=>match h.get? a with
  | some o=>match o.data with
   | .seq xs _=>match xs.toList with
    | [.int a ta, .int b tb]=>⟨a,ta,b,tb⟩
    | _=>⟨0,0,0,0⟩
   | _=>⟨0,0,0,0⟩
  | none=>⟨0,0,0,0⟩
 | _=>⟨0,0,0,0⟩
theorem qgb {h:Heap} {a:Nat} {p:PT} (e:h.get? a=some (ptO p)):qbm h (.ref a)=p:=by
 unfold qbm
 simp only [e]
 rfl
theorem qgC {h:Heap} {f:PT→Bool}:∀{as:List Nat} {ps:List PT},Objs h as (ps.map ptO)→(as.map Value.ref).any (λv=>f (qbm h v))=ps.any f
 | [],[],_=>rfl
 | a::as,p::ps,H=>by
  rw [O2,N0,N0,qgb H.1,qgC H.2]
 | [],_::_,H=>H.elim
 | _::_,[],H=>H.elim
theorem qap {lev:Nat} {ps:List PT} {n:Nat} {x:Int} {tx:U1} {y:Int} {ty:U1} {r:Bool} (hr:ps.any (λp=>p.a==x&&p.b==y)=r):VC w (lev+1) (qqT ps n x tx y ty r):=by
 intro A ads s R h0 hd hu hkt hok hnd hoff hob hfz hbare hfin
 obtain ⟨a,b,as,rfl⟩:∃a b as,ads=a::b::as:=by
  match ads,hob with
  | a::b::as,_=>exact ⟨a,b,as,rfl⟩
  | [_],h=>exact h.2.elim
  | [],h=>exact h.elim
 subst hr
 have hp:Objs s.heap as (ps.map ptO):=hob.2.2
 have hb:s.heap.get? b=some (prO x tx y ty):=hob.2.1
 have hlen:as.length=ps.length:=by have:=hp.len;rwa [G3] at this
 have hrefs:wI (a::b::as) 2 ps.length=as.map Value.ref:=by
  rw [jO,jO,←hlen]
  exact qct as
 have ho:s.heap.get? a=some (qd (as.map Value.ref) n):=by rw [←hrefs];exact hob.1
 have hne:∀c∈as,c≠b:=λc hc e=>(F3.mp (F3.mp hnd).2).1 (e▸hc)
 refine codeAny_builtin PySem.F.entry_list_contains ?_
 rw [G4 ug]
 refine PySem.SeqAt.list_containsAt a ⟨as.map Value.ref⟩ n none #[] (.ref b) (λv=>(qbm s.heap v).a==x&&(qbm s.heap v).b==y) prog w A R s ⟨ho,λv hv => ?_,?_⟩
 ·have hv:v∈as.map Value.ref:=by simpa using hv
  obtain ⟨c,hc,rfl⟩:=I6.mp hv
  obtain ⟨p,_,hcp⟩:=qgg hp c hc
  rw [qgb hcp]
  refine PySem.SeqAt.EqAt.of_refs (hne c hc) ?_
  have z:=PySem.SeqAt.RcAt.tuples (A:=A.in1) (s:=s) (l:=c) (b:=b) (items := #[.int p.a p.ta, .int p.b p.tb]) (items2 := #[.int x tx, .int y ty]) (e:=λj=>match j with | 0=>p.a==x | _=>p.b==y) ⟨_,hcp,rfl,_,rfl⟩ ⟨_,hb,rfl,_,rfl⟩ (by show A.units+1<cLine;lia) (λj h1 h2 => ?_)
  ·have e2:((G8 (min (#[Value.int p.a p.ta, .int p.b p.tb]:Array T1).size (#[Value.int x tx, .int y ty]:Array T1).size)).all (λj=>match j with | 0=>p.a==x | _=>p.b==y)&&(#[Value.int p.a p.ta, .int p.b p.tb]:Array T1).size==(#[Value.int x tx, .int y ty]:Array T1).size)=(p.a==x&&p.b==y):=by
    show (((p.a==x)&&((p.b==y)&&true))&&true)=_
    simp
   rw [e2] at z
   exact z
  ·match j,h1 with
   | 0,_=>exact λprog w E Q hq=>wpAny_eqBool_int hq
   | 1,_=>exact λprog w E Q hq=>wpAny_eqBool_int hq
 ·have e:(⟨as.map Value.ref⟩:Array T1).any (λv=>(qbm s.heap v).a==x&&(qbm s.heap v).b==y)=ps.any (λp=>p.a==x&&p.b==y):=by
   rw [←qgC (f:=λp=>p.a==x&&p.b==y) hp]
   simp
  rw [e]
  exact hfin (nu s.heap.objs.size s.toks s.gens.size []) _ ⟨hob,trivial,F8,(λa h=>nomatch h),λb o e _=>e,F4 _,rfl,rfl,rfl,F4 _,λ_ _=>rfl,hbare,rfl,rfl,λk hk=>nomatch hk⟩
end
noncomputable def qpH:U2:=⟨#[111,116,104,101,114]⟩
noncomputable def qpJ:U2:=⟨#[103,114,101,97,116]⟩
noncomputable def qp2:U2:=⟨#[95,108,97,119,95,100,117,101,46,60,108,111,99,97,108,115,62,46]⟩
noncomputable def qqX (s:Stmt):List Stmt:=match s with
 | .For _ _ b _ _=>b
 | _=>[]
noncomputable def ifT (s:Stmt):Expr:=match s with
 | .If t _ _ _=>t
 | _ => .Name ⟨#[]⟩ ⟨0,0,0,0⟩
noncomputable def qrq (e:Expr):Expr:=match e with
 | .Compare _ _ rs _=>match rs with
  | r::_=>r
  | [] => .Name ⟨#[]⟩ ⟨0,0,0,0⟩
 | e=>e
noncomputable def st0 (l:List Stmt):Stmt:=match l with
 | s::_=>s
 | [] => .Pass ⟨0,0,0,0⟩
noncomputable def qrn (fd:T5):Expr:=qrq (ifT (st0 (qqX (w3 fd 1))))
noncomputable def qn6 (fd:T5) (F D:Nat):Env:={scope:=qlc (qd6 (qrn fd)),locals:=D,globals:=3,cells:=[],qual:=qp2,func:=none,code := .ref 276,frame:=some F,builtins:=0}
noncomputable def w1 (fd:T5) (F D it acc:Nat):Code := .compLoop (qrn fd) 0 (.ref it) (.ref acc) (qn6 fd F D)
noncomputable def qsz (p:T4) (s1:U2) (t1:U1) (v1:T1) (s2:U2) (t2:U1) (v2:T1) (n:Nat):Obj:=⟨.type "dict",none, .dict #[⟨reduceHash (p.strHash s1.cps), .str s1 t1,v1⟩,⟨reduceHash (p.strHash s2.cps), .str s2 t2,v2⟩] n,#[]⟩
noncomputable def yQ (p:T4) (late:Bool) (k1 k2:U1) (q:PT) (dv:Nat):Obj:=match late with
 | true=>qsz p qpH k1 (.int q.a q.ta) qpJ k2 (.int q.b q.tb) dv
 | false=>yM dv
noncomputable def qlF (p:T4) (fd:T5) (F:Nat) (late:Bool) (k1 k2:U1) (q0:PT) (dv:Nat) (xs:List T1) (n i:Nat) (t:Nat) (q:PT) (vs:List T1) (lv:Nat):Ctr where
 code ads:=w1 fd F (adF ads 0 0) (adF ads 0 1) (adF ads 0 3)
 ok ads:=[(t,adF ads 0 4)]
 pre ads:=[yQ p late k1 k2 q0 dv,liO (adF ads 0 2) (E3 i),qd xs n,qd vs lv,ptO q]
 res ads _ := .go (w1 fd F (adF ads 0 0) (adF ads 0 1) (adF ads 0 3))
 post ads ν:=[match late with
  | true=>yQ p true k1 k2 q dv
  | false=>yQ p true (ν 3) (ν 4) q (dv+2),liO (adF ads 0 2) (E3 i+1),qd xs n,qd (vs++[.int q.b q.tb]) (lv+1),ptO q]
 news _ _:=[]
 frz:=[]
noncomputable def qfr (p:T4) (fd:T5) (F:Nat) (late:Bool) (k1 k2:U1) (q0:PT) (dv:Nat) (xs:List T1) (n i:Nat) (vs:List T1) (lv:Nat):Ctr where
 code ads:=w1 fd F (adF ads 0 0) (adF ads 0 1) (adF ads 0 3)
 ok _:=[]
 pre ads:=[yQ p late k1 k2 q0 dv,liO (adF ads 0 2) (E3 i),qd xs n,qd vs lv]
 res _ _ := .done (.ok .next)
 post _ _:=[yQ p late k1 k2 q0 dv,liE (E3 i),qd xs n,qd vs lv]
 news _ _:=[]
 frz:=[]
section
variable {w:T3}
noncomputable def fdD (p:T4):T5:=qdP (ktOf p 277)
theorem qrc (F:Nat) (k1 k2:U1) (q0:PT) (dv:Nat) (xs:List T1) (n i:Nat) (q:PT) (vs:List T1) (lv:Nat) (a0 a1 a2 a3 a4:Nat):RunOk w (qlF w.params (fdD w.params) F false k1 k2 q0 dv xs n i a4 q vs lv) 5 82 [a0,a1,a2,a3,a4] [] (hx 0x104d1f01d08d0a07e2f111f06d0f05d0002d) [] [(cX 1 (λ_ _=>jr xs n i (.ref a4)) [1,2]),(cX 9 (λ_ _=>yK vs lv (.int q.b q.tb)) [3]),⟨0,none,[]⟩] (λa N t0 gN=>[]) (λa N t0 gN=>[a.c 0 1+0,a.c 0 1+1]):=λN t0 gN a x' y' z'=>by
 kernel_rfl
theorem qrb (F:Nat) (k1 k2:U1) (q0:PT) (dv:Nat) (xs:List T1) (n i:Nat) (q:PT) (vs:List T1) (lv:Nat) (a0 a1 a2 a3 a4:Nat):RunOk w (qlF w.params (fdD w.params) F true k1 k2 q0 dv xs n i a4 q vs lv) 5 82 [a0,a1,a2,a3,a4] [] (hx 0x104d1f01d08d0a07e2f111f06d0f05d0002d) [] [(cX 1 (λ_ _=>jr xs n i (.ref a4)) [1,2]),(cX 9 (λ_ _=>yK vs lv (.int q.b q.tb)) [3]),⟨0,none,[]⟩] (λa N t0 gN=>[]) (λa N t0 gN=>[]):=λN t0 gN a x' y' z'=>by
 kernel_rfl
theorem qrd (F:Nat) (k1 k2:U1) (q0:PT) (dv:Nat) (xs:List T1) (n i:Nat) (vs:List T1) (lv:Nat) (a0 a1 a2 a3:Nat):RunOk w (qfr w.params (fdD w.params) F true k1 k2 q0 dv xs n i vs lv) 4 17 [a0,a1,a2,a3] [] [2,2,5] [] [(cX 1 (λ_ _=>va xs n i) [1,2])] (λa N t0 gN=>[]) (λa N t0 gN=>[]):=λN t0 gN a x' y' z'=>by
 kernel_rfl
theorem qre (F:Nat) (k1 k2:U1) (q0:PT) (dv:Nat) (xs:List T1) (n i:Nat) (vs:List T1) (lv:Nat) (a0 a1 a2 a3:Nat):RunOk w (qfr w.params (fdD w.params) F false k1 k2 q0 dv xs n i vs lv) 4 17 [a0,a1,a2,a3] [] [2,2,5] [] [(cX 1 (λ_ _=>va xs n i) [1,2])] (λa N t0 gN=>[]) (λa N t0 gN=>[]):=λN t0 gN a x' y' z'=>by
 kernel_rfl
theorem qmB {late:Bool} {F:Nat} {k1 k2:U1} {q0:PT} {dv:Nat} {xs:List T1} {n i:Nat} {q:PT} {vs:List T1} {lv:Nat} {t:Nat} (hx:xs[i]? = some (.ref t)) (hv:vs.length≤16777215):VC w 1 (qlF w.params (fdD w.params) F late k1 k2 q0 dv xs n i t q vs lv):=by
 refine qu 5 λads hl hok => ?_
 obtain ⟨a0,a1,a2,a3,a4,rfl⟩:=qlC hl
 have e:t=a4:=hok _ (.head _)
 subst e
 cases late
 ·exact (C2 (qrc F k1 k2 q0 dv xs n i q vs lv a0 a1 a2 a3 t) (qa (λ_ _=>zm hx) (qa (λ_ _=>zv hv) (qK B0))) (λ_ _ _ _ _ h=>nomatch h))
 ·exact (C2 (qrb F k1 k2 q0 dv xs n i q vs lv a0 a1 a2 a3 t) (qa (λ_ _=>zm hx) (qa (λ_ _=>zv hv) (qK B0))) (λ_ _ _ _ _ h=>nomatch h))
theorem qgB {late:Bool} {F:Nat} {k1 k2:U1} {q0:PT} {dv:Nat} {xs:List T1} {n i:Nat} {vs:List T1} {lv:Nat} (hx:xs[i]? = none):VC w 1 (qfr w.params (fdD w.params) F late k1 k2 q0 dv xs n i vs lv):=by
 refine qu 4 λads hl hok => ?_
 obtain ⟨a0,a1,a2,a3,rfl⟩:=wL hl
 cases late
 ·exact (C2 (qre F k1 k2 q0 dv xs n i vs lv a0 a1 a2 a3) (qa (λ_ _=>j7 hx) B0) (λ_ _ _ _ _ h=>nomatch h))
 ·exact (C2 (qrd F k1 k2 q0 dv xs n i vs lv a0 a1 a2 a3) (qa (λ_ _=>j7 hx) B0) (λ_ _ _ _ _ h=>nomatch h))
theorem zp.drop {s s':T2} {ads:List Nat} {t:Nat} {o:Obj} (K:zp s s' (ads++[t])) (h:s.heap.get? t=some o) (h':s'.heap.get? t=some o):zp s s' ads where
 keep b ob e hb:=by
  by_cases q:b=t
  ·subst q
   rw [h] at e
   cases e
   exact h'
  ·refine K.keep b ob e λhm => ?_
   rcases I1.mp hm with hm | hm
   ·exact hb hm
   ·rcases E2.mp hm with hm | hm
    ·exact q hm
    ·cases hm
 le0:=K.le0
 le2:=K.le2
 gk:=K.gk
 bare:=K.bare
 dr:=K.dr
 os:=K.os
theorem zk.more {A:Around} {ads bs:List Nat} {s:T2} (G:zk w A ads s) (hn:bs.Nodup) (hs:∀b∈bs,b∈ads):zk w A bs s :=
 ⟨G.h0,G.hd,G.hu,G.hkt,hn,λa ha=>G.off a (hs a ha),G.bare⟩
theorem Objs.keep {s s':T2} {ads:List Nat} (K:zp s s' ads):∀{as:List Nat} {os:List Obj},(∀a∈as,a∉ads)→Objs s.heap as os→Objs s'.heap as os
 | [],[],_,_=>trivial
 | a::as,o::os,h,H=>⟨K.keep a o H.1 (h a (.head _)),Objs.keep K (λb hb=>h b (.tail _ hb)) H.2⟩
 | [],_::_,_,H=>H.elim
 | _::_,[],_,H=>H.elim
noncomputable def qb5 (q:PT):List PT→PT
 | []=>q
 | r::rest=>qb5 r rest
noncomputable def jM (ps:List PT):List T1:=ps.map λq => .int q.b q.tb
theorem vA {α:Type} {xs rest:List α} {i:Nat} {x:α} (h:xs.drop i=x::rest):xs[i]? = some x∧xs.drop (i+1)=rest:=by
 constructor
 ·rw [←M2,h];rfl
 ·rw [←List.tail_drop,h];rfl
theorem qj7 {F:Nat} {A:Around} {R:Result→T2→Prop} {D it L acc:Nat} {xs:List T1} {n:Nat} {k1 k2:U1} {dv:Nat}:∀(qs:List PT) (bs:List Nat) (i:Nat) (q0:PT) (vs:List T1) (lv:Nat) (s:T2),zk w A (D::it::L::acc::bs) s→xs.drop i=bs.map Value.ref→vs.length+qs.length≤16777215→
  Objs s.heap [D,it,L,acc] [yQ w.params true k1 k2 q0 dv,liO L (E3 i),qd xs n,qd vs lv]→Objs s.heap bs (qs.map ptO)→
  (∀(s':T2),zp s s' [D,it,L,acc]→Objs s'.heap [D,it,L,acc] [yQ w.params true k1 k2 (qb5 q0 qs) dv,liE (E3 (i+qs.length)),qd xs n,qd (vs++jM qs) (lv+qs.length)]→R (.ok .next) s')→
  codeAny (model prog w) A (w1 (fdD w.params) F D it acc) R s
 | [],[],i,q0,vs,lv,s,G,hx,hv,hob,hbs,hfin=>by
  have hx':xs[i]? = none:=by
   rw [←M2,hx];rfl
  refine qgB (F:=F) (k1:=k1) (k2:=k2) (q0:=q0) (dv:=dv) (n:=n) (vs:=vs) (lv:=lv) hx' A [D,it,L,acc] s R G.h0 G.hd G.hu G.hkt (λp hp=>nomatch hp) G.nd G.off hob (λk hk=>nomatch hk) G.bare λν s1 P => ?_
  refine hfin s1 P.kept ?_
  have q:=P.post
  show Objs s1.heap [D,it,L,acc] [yQ w.params true k1 k2 q0 dv,liE (E3 i),qd xs n,qd (vs++[]) lv]
  rw [I8]
  exact q
 | q::qs,b::bs,i,q0,vs,lv,s,G,hx,hv,hob,hbs,hfin=>by
  obtain ⟨hx1,hx2⟩:=vA (show xs.drop i = .ref b::bs.map Value.ref from hx)
  have hv:vs.length+(qs.length+1)≤16777215:=hv
  have G5:zk w A [D,it,L,acc,b] s:=G.more (by
   have:=G.nd
   rw [show D::it::L::acc::b::bs=[D,it,L,acc,b]++bs from rfl] at this
   exact (J2.mp this).1) (λa ha=>by
    rw [show D::it::L::acc::b::bs=[D,it,L,acc,b]++bs from rfl]
    exact I5 _ ha)
  have hb5:Objs s.heap [D,it,L,acc,b] [yQ w.params true k1 k2 q0 dv,liO L (E3 i),qd xs n,qd vs lv,ptO q]:=⟨hob.1,hob.2.1,hob.2.2.1,hob.2.2.2.1,hbs.1,trivial⟩
  refine qmB (F:=F) (late:=true) (k1:=k1) (k2:=k2) (q0:=q0) (dv:=dv) (n:=n) (q:=q) (vs:=vs) (lv:=lv) hx1 (by lia) A [D,it,L,acc,b] s R G5.h0 G5.hd G5.hu G5.hkt (λp hp=>by
   rcases E2.mp hp with rfl | hp
   ·rfl
   ·cases hp) G5.nd G5.off hb5 (λk hk=>nomatch hk) G5.bare λν s1 P => ?_
  have p:=P.post
  have p:Objs s1.heap [D,it,L,acc,b] [yQ w.params true k1 k2 q dv,liO L (E3 (i+1)),qd xs n,qd (vs++[.int q.b q.tb]) (lv+1),ptO q]:=p
  have K:zp s s1 [D,it,L,acc]:=zp.drop (ads:=[D,it,L,acc]) P.kept hbs.1 p.2.2.2.2.1
  have nd:=G.nd
  have nd':∀x∈b::bs,x∉[D,it,L,acc]:=λx hx hm=>by
   rw [show D::it::L::acc::b::bs=[D,it,L,acc]++(b::bs) from rfl] at nd
   exact (J2.mp nd).2.2 x hm x hx rfl
  have G':zk w A (D::it::L::acc::bs) s1:=by
   have G0:zk w A (D::it::L::acc::bs) s:=G.more (by
    refine List.Sublist.nodup ?_ G.nd
    exact .cons_cons _ (.cons_cons _ (.cons_cons _ (.cons_cons _ (.cons _ (List.Sublist.refl _)))))) (λa ha=>by
     rw [show D::it::L::acc::bs=[D,it,L,acc]++bs from rfl] at ha
     rw [show D::it::L::acc::b::bs=[D,it,L,acc]++(b::bs) from rfl]
     rcases I1.mp ha with h | h
     ·exact I5 _ h
     ·exact J0 _ (.tail _ h))
   exact ⟨G0.h0,G0.hd,G0.hu,λa o e=>K.keep a o (G0.hkt a o e) λhm=>by
    have hm':a∈D::it::L::acc::bs:=by
     rw [show D::it::L::acc::bs=[D,it,L,acc]++bs from rfl]
     exact I5 _ hm
    exact absurd ((G0.off a hm').symm.trans e) (λh=>nomatch h),G0.nd,G0.off,K.bare⟩
  have p4:Objs s1.heap [D,it,L,acc] [yQ w.params true k1 k2 q dv,liO L (E3 (i+1)),qd xs n,qd (vs++[Value.int q.b q.tb]) (lv+1)]:=⟨p.1,p.2.1,p.2.2.1,p.2.2.2.1,trivial⟩
  refine qj7 qs bs (i+1) q (vs++[Value.int q.b q.tb]) (lv+1) s1 G' hx2 (by rw [G1,L1];lia) p4 (Objs.keep K (λa ha=>nd' a (.tail _ ha)) hbs.2) λs2 K2 q2 => ?_
  refine hfin s2 (K.trans K2 λa ha => .inl ha) ?_
  show Objs s2.heap [D,it,L,acc] [yQ w.params true k1 k2 (qb5 q qs) dv,liE (E3 (i+(qs.length+1))),qd xs n,qd (vs ++ .int q.b q.tb::jM qs) (lv+(qs.length+1))]
  rw [show i+(qs.length+1)=i+1+qs.length by lia,show lv+(qs.length+1)=lv+1+qs.length by lia,O6]
  exact q2
 | [],_::_,_,_,_,_,_,_,_,_,_,H,_=>H.elim
 | _::_,[],_,_,_,_,_,_,_,_,_,H,_=>H.elim
noncomputable def qy (p:T4) (fd:T5) (F:Nat) (dv:Nat) (ps:List PT) (n lv:Nat):Ctr where
 code ads:=w1 fd F (adF ads 0 0) (adF ads 0 1) (adF ads 0 3)
 ok _:=[]
 pre ads:=yM dv::liO (adF ads 0 2) (E3 0)::qd (wI ads 4 ps.length) n::qd [] lv::ps.map ptO
 res _ _ := .done (.ok .next)
 post ads ν:=(match ps with
  | []=>yM dv
  | q::qs=>yQ p true (ν 3) (ν 4) (qb5 q qs) (dv+2))::liE (E3 ps.length)::qd (wI ads 4 ps.length) n::qd (jM ps) (lv+ps.length)::ps.map ptO
 news _ _:=[]
 frz:=[]
theorem qh {F dv:Nat} {ps:List PT} {n lv:Nat} (hm:ps.length≤1000:=by rw [psAt_len];decide):VC w 1 (qy w.params (fdD w.params) F dv ps n lv):=by
 intro A ads s R h0 hd hu hkt hok hnd hoff hob hfz hbare hfin
 obtain ⟨D,it,L,acc,as,rfl⟩:∃D it L acc as,ads=D::it::L::acc::as:=by
  match ads,hob with
  | D::it::L::acc::as,_=>exact ⟨D,it,L,acc,as,rfl⟩
  | [],h=>exact h.elim
  | [_],h=>exact h.2.elim
  | [_,_],h=>exact h.2.2.elim
  | [_,_,_],h=>exact h.2.2.2.elim
 have G:zk w A (D::it::L::acc::as) s:=⟨h0,hd,hu,hkt,hnd,hoff,hbare⟩
 have hp:Objs s.heap as (ps.map ptO):=hob.2.2.2.2
 have hlen:as.length=ps.length:=by have:=hp.len;rwa [G3] at this
 have hrefs:wI (D::it::L::acc::as) 4 ps.length=as.map Value.ref:=by
  rw [jO,jO,jO,jO,←hlen]
  exact qct as
 have nd':∀x∈as,x∉[D,it,L,acc]:=λx hx hm=>by
  rw [show D::it::L::acc::as=[D,it,L,acc]++as from rfl] at hnd
  exact (J2.mp hnd).2.2 x hm x hx rfl
 have ho4:Objs s.heap [D,it,L,acc] [yM dv,liO L (E3 0),qd (as.map Value.ref) n,qd [] lv]:=by
  have q:=hob
  exact ⟨q.1,q.2.1,by rw [←hrefs];exact q.2.2.1,q.2.2.2.1,trivial⟩
 show codeAny (model prog w) A (w1 (fdD w.params) F D it acc) R s
 cases ps with
 | nil =>
  have ea:as=[]:=O9.mp hlen
  subst ea
  refine qgB (F:=F) (late:=false) (k1:=0) (k2:=0) (q0:=⟨0,0,0,0⟩) (dv:=dv) (n:=n) (vs:=[]) (lv:=lv) (xs:=[]) (i:=0) rfl A [D,it,L,acc] s R h0 hd hu hkt (λp hp=>nomatch hp) hnd hoff ho4 (λk hk=>nomatch hk) hbare λν s1 P => ?_
  exact hfin (nu s1.heap.objs.size s1.toks s1.gens.size []) s1 (zp.post P.kept P.post rfl rfl rfl rfl rfl)
 | cons q qs =>
  obtain ⟨b,bs,rfl⟩:∃b bs,as=b::bs:=by
   match as,hlen with
   | b::bs,_=>exact ⟨b,bs,rfl⟩
  have G5:zk w A [D,it,L,acc,b] s:=G.more (by
   have:=G.nd
   rw [show D::it::L::acc::b::bs=[D,it,L,acc,b]++bs from rfl] at this
   exact (J2.mp this).1) (λa ha=>by
    rw [show D::it::L::acc::b::bs=[D,it,L,acc,b]++bs from rfl]
    exact I5 _ ha)
  have hb5:Objs s.heap [D,it,L,acc,b] [yM dv,liO L (E3 0),qd ((b::bs).map Value.ref) n,qd [] lv,ptO q]:=⟨ho4.1,ho4.2.1,ho4.2.2.1,ho4.2.2.2.1,hp.1,trivial⟩
  refine qmB (F:=F) (late:=false) (k1:=0) (k2:=0) (q0:=⟨0,0,0,0⟩) (dv:=dv) (n:=n) (q:=q) (vs:=[]) (lv:=lv) (xs:=(b::bs).map Value.ref) (i:=0) (t:=b) rfl (by simp) A [D,it,L,acc,b] s R h0 hd hu hkt (λp hp=>by
   rcases E2.mp hp with rfl | hp
   ·rfl
   ·cases hp) G5.nd G5.off hb5 (λk hk=>nomatch hk) hbare λν s1 P => ?_
  have p:=P.post
  have p:Objs s1.heap [D,it,L,acc,b] [yQ w.params true (ν 3) (ν 4) q (dv+2),liO L (E3 1),qd ((b::bs).map Value.ref) n,qd [.int q.b q.tb] (lv+1),ptO q]:=p
  have K:zp s s1 [D,it,L,acc]:=zp.drop (ads:=[D,it,L,acc]) P.kept hp.1 p.2.2.2.2.1
  have G':zk w A (D::it::L::acc::bs) s1:=by
   have G0:zk w A (D::it::L::acc::bs) s:=G.more (by
    refine List.Sublist.nodup ?_ G.nd
    exact .cons_cons _ (.cons_cons _ (.cons_cons _ (.cons_cons _ (.cons _ (List.Sublist.refl _)))))) (λa ha=>by
     rw [show D::it::L::acc::bs=[D,it,L,acc]++bs from rfl] at ha
     rw [show D::it::L::acc::b::bs=[D,it,L,acc]++(b::bs) from rfl]
     rcases I1.mp ha with h | h
     ·exact I5 _ h
     ·exact J0 _ (.tail _ h))
   exact ⟨G0.h0,G0.hd,G0.hu,λa o e=>K.keep a o (G0.hkt a o e) λhm=>by
    have hm':a∈D::it::L::acc::bs:=by
     rw [show D::it::L::acc::bs=[D,it,L,acc]++bs from rfl]
     exact I5 _ hm
    exact absurd ((G0.off a hm').symm.trans e) (λh=>nomatch h),G0.nd,G0.off,K.bare⟩
  have hm:qs.length+1≤1000:=hm
  refine qj7 qs bs 1 q [.int q.b q.tb] (lv+1) s1 G' rfl (by simp;lia) ⟨p.1,p.2.1,p.2.2.1,p.2.2.2.1,trivial⟩ (Objs.keep K (λa ha=>nd' a (.tail _ ha)) hp.2) λs2 K2 q2 => ?_
  have KK:zp s s2 [D,it,L,acc]:=K.trans K2 λa ha => .inl ha
  have hts:Objs s2.heap (b::bs) ((q::qs).map ptO):=Objs.keep KK nd' hp
  refine hfin (nu s2.heap.objs.size s2.toks s2.gens.size [ν 3,ν 4]) s2 (zp.post ⟨λx o e hx=>KK.keep x o e λhm=>hx (by
   rw [show D::it::L::acc::b::bs=[D,it,L,acc]++(b::bs) from rfl]
   exact I5 _ hm),KK.le0,KK.le2,KK.gk,KK.bare,KK.dr,KK.os⟩ ?_ rfl rfl rfl rfl rfl)
  show Objs s2.heap (D::it::L::acc::b::bs) (yQ w.params true (ν 3) (ν 4) (qb5 q qs) (dv+2)::liE (E3 (qs.length+1))::qd (wI (D::it::L::acc::b::bs) 4 (qs.length+1)) n::qd (.int q.b q.tb::jM qs) (lv+(qs.length+1))::(q::qs).map ptO)
  rw [show lv+(qs.length+1)=lv+1+qs.length by lia,show qs.length+1=1+qs.length by lia]
  have hrefs:wI (D::it::L::acc::b::bs) 4 (1+qs.length)=(b::bs).map Value.ref:=by rw [←hrefs];congr 1;show 1+qs.length=qs.length+1;lia
  rw [hrefs]
  exact ⟨q2.1,q2.2.1,q2.2.2.1,q2.2.2.2.1,hts⟩
end
section
noncomputable def fl1 (p:T4) (s:U2) (late:Bool) (k:U1) (v:T1) (dv:Nat):Obj:=match late with
 | true=>dict1 p s k v dv
 | false=>yM dv
noncomputable def flT (p:T4) (code:List Nat→Code) (s:U2) (late b:Bool) (k:U1) (v0:T1) (dv:Nat) (xs:List T1) (n i:Nat) (x:T1) (vs:List T1) (lv:Nat) (rest:List Nat→List Obj):Ctr where
 code ads:=code ads
 ok _:=[]
 pre ads:=fl1 p s late k v0 dv::liO (adF ads 0 2) (E3 i)::qd xs n::qd vs lv::rest ads
 res ads _ := .go (code ads)
 post ads ν:=(match late with
  | true=>dict1 p s k x dv
  | false=>dict1 p s (ν 3) x (dv+1))::liO (adF ads 0 2) (E3 i+1)::qd xs n::(match b with
  | true=>qd (vs++[x]) (lv+1)
  | false=>qd vs lv)::rest ads
 news _ _:=[]
 frz:=[]
noncomputable def flE (p:T4) (code:List Nat→Code) (s:U2) (late:Bool) (k:U1) (v0:T1) (dv:Nat) (xs:List T1) (n i:Nat) (vs:List T1) (lv:Nat) (rest:List Nat→List Obj):Ctr where
 code ads:=code ads
 ok _:=[]
 pre ads:=fl1 p s late k v0 dv::liO (adF ads 0 2) (E3 i)::qd xs n::qd vs lv::rest ads
 res _ _ := .done (.ok .next)
 post ads _:=fl1 p s late k v0 dv::liE (E3 i)::qd xs n::qd vs lv::rest ads
 news _ _:=[]
 frz:=[]
noncomputable def qaU (v:T1):List T1→T1
 | []=>v
 | x::xs=>qaU x xs
noncomputable def qfi (p:T4) (ne:Bool) (code:List Nat→Code) (s:U2) (dv:Nat) (xs:List T1) (n lv:Nat) (f:T1→Bool) (rest:List Nat→List Obj):Ctr where
 code ads:=code ads
 ok _:=[]
 pre ads:=yM dv::liO (adF ads 0 2) (E3 0)::qd xs n::qd [] lv::rest ads
 res _ _ := .done (.ok .next)
 post ads ν:=(match ne with
  | false=>yM dv
  | true=>dict1 p s (ν 3) (qaU .none xs) (dv+1))::liE (E3 xs.length)::qd xs n::qd (xs.filter f) (lv+(xs.filter f).length)::rest ads
 news _ _:=[]
 frz:=[]
section
variable {w:T3}
theorem qhX {code:List Nat→Code} {s:U2} {xs:List T1} {n:Nat} {f:T1→Bool} {rest:List Nat→List Obj}
  (hT:∀(k:U1) (v0:T1) (dv i:Nat) (x:T1) (vs:List T1) (lv:Nat),xs[i]? = some x→vs.length≤16777215→VC w 1 (flT w.params code s true (f x) k v0 dv xs n i x vs lv rest))
  (hE:∀(k:U1) (v0:T1) (dv i:Nat) (vs:List T1) (lv:Nat),xs[i]? = none→VC w 1 (flE w.params code s true k v0 dv xs n i vs lv rest))
  {A:Around} {R:Result→T2→Prop} {ads:List Nat} {k:U1} {dv:Nat}:∀(ys:List T1) (i:Nat) (v0:T1) (vs:List T1) (lv:Nat) (s':T2),zk w A ads s'→xs.drop i=ys→vs.length+ys.length≤16777215→
  Objs s'.heap ads (dict1 w.params s k v0 dv::liO (adF ads 0 2) (E3 i)::qd xs n::qd vs lv::rest ads)→
  (∀(s2:T2),zp s' s2 ads→Objs s2.heap ads (dict1 w.params s k (qaU v0 ys) dv::liE (E3 (i+ys.length))::qd xs n::qd (vs++ys.filter f) (lv+(ys.filter f).length)::rest ads)→R (.ok .next) s2)→
  codeAny (model prog w) A (code ads) R s'
 | [],i,v0,vs,lv,s',G,hx,hv,hob,hfin=>by
  have hx':xs[i]? = none:=by rw [←M2,hx];rfl
  refine hE k v0 dv i vs lv hx' A ads s' R G.h0 G.hd G.hu G.hkt (λp hp=>nomatch hp) G.nd G.off hob (λk hk=>nomatch hk) G.bare λν s1 P => ?_
  refine hfin s1 P.kept ?_
  have q:=P.post
  rw [List.filter_nil,I8]
  exact q
 | y::ys,i,v0,vs,lv,s',G,hx,hv,hob,hfin=>by
  obtain ⟨hx1,hx2⟩:=vA hx
  have hv:vs.length+(ys.length+1)≤16777215:=hv
  refine hT k v0 dv i y vs lv hx1 (by lia) A ads s' R G.h0 G.hd G.hu G.hkt (λp hp=>nomatch hp) G.nd G.off hob (λk hk=>nomatch hk) G.bare λν s1 P => ?_
  have q:=P.post
  cases hf:f y with
  | true =>
   rw [hf] at q
   have q:Objs s1.heap ads (dict1 w.params s k y dv::liO (adF ads 0 2) (E3 (i+1))::qd xs n::qd (vs++[y]) (lv+1)::rest ads):=q
   refine qhX hT hE ys (i+1) y (vs++[y]) (lv+1) s1 (G.next P.kept) hx2 (by rw [G1,L1];lia) q λs2 K2 q2 => ?_
   refine hfin s2 (P.kept.trans K2 λa ha => .inl ha) ?_
   rw [K8,hf,if_pos rfl]
   show Objs s2.heap ads (dict1 w.params s k (qaU y ys) dv::liE (E3 (i+(ys.length+1)))::qd xs n::qd (vs++y::ys.filter f) (lv+((ys.filter f).length+1))::rest ads)
   rw [show i+(ys.length+1)=i+1+ys.length by lia,show lv+((ys.filter f).length+1)=lv+1+(ys.filter f).length by lia,O6]
   exact q2
  | false =>
   rw [hf] at q
   have q:Objs s1.heap ads (dict1 w.params s k y dv::liO (adF ads 0 2) (E3 (i+1))::qd xs n::qd vs lv::rest ads):=q
   refine qhX hT hE ys (i+1) y vs lv s1 (G.next P.kept) hx2 (by lia) q λs2 K2 q2 => ?_
   refine hfin s2 (P.kept.trans K2 λa ha => .inl ha) ?_
   rw [K8,hf,if_neg F7]
   show Objs s2.heap ads (dict1 w.params s k (qaU y ys) dv::liE (E3 (i+(ys.length+1)))::qd xs n::qd (vs++ys.filter f) (lv+(ys.filter f).length)::rest ads)
   rw [show i+(ys.length+1)=i+1+ys.length by lia]
   exact q2
theorem qce {ne:Bool} {code:List Nat→Code} {s:U2} {dv:Nat} {xs:List T1} {n lv:Nat} {f:T1→Bool} {rest:List Nat→List Obj}
  (hT:∀(late:Bool) (k:U1) (v0:T1) (dv i:Nat) (x:T1) (vs:List T1) (lv:Nat),xs[i]? = some x→vs.length≤16777215→VC w 1 (flT w.params code s late (f x) k v0 dv xs n i x vs lv rest))
  (hE:∀(late:Bool) (k:U1) (v0:T1) (dv i:Nat) (vs:List T1) (lv:Nat),xs[i]? = none→VC w 1 (flE w.params code s late k v0 dv xs n i vs lv rest)) (hm:xs.length≤1000) (hne:xs.isEmpty = !ne):VC w 1 (qfi w.params ne code s dv xs n lv f rest):=by
 intro A ads s' R h0 hd hu hkt hok hnd hoff hob hfz hbare hfin
 have G:zk w A ads s':=⟨h0,hd,hu,hkt,hnd,hoff,hbare⟩
 show codeAny (model prog w) A (code ads) R s'
 cases xs with
 | nil =>
  obtain rfl:ne=false:=by cases ne;rfl;cases hne
  refine hE false 0 .none dv 0 [] lv rfl A ads s' R G.h0 G.hd G.hu G.hkt (λp hp=>nomatch hp) G.nd G.off hob (λk hk=>nomatch hk) G.bare λν s1 P => ?_
  exact hfin (nu s1.heap.objs.size s1.toks s1.gens.size []) s1 (zp.post P.kept P.post rfl rfl rfl rfl rfl)
 | cons x xs =>
  obtain rfl:ne=true:=by cases ne;cases hne;rfl
  have hm:xs.length+1≤1000:=hm
  refine hT false 0 .none dv 0 x [] lv rfl (by simp) A ads s' R G.h0 G.hd G.hu G.hkt (λp hp=>nomatch hp) G.nd G.off hob (λk hk=>nomatch hk) G.bare λν s1 P => ?_
  have q:=P.post
  have done:∀(vs:List T1) (lv':Nat),vs=[x].filter f→lv'=lv+vs.length→Objs s1.heap ads (dict1 w.params s (ν 3) x (dv+1)::liO (adF ads 0 2) (E3 1)::qd (x::xs) n::qd vs lv'::rest ads)→codeAny (model prog w) A (code ads) R s1:=λvs lv' e1 e2 q=>by
   have hl:vs.length≤1:=by rw [e1];exact P7 _ _
   refine qhX (hT true) (hE true) xs 1 x vs lv' s1 (G.next P.kept) rfl (by lia) q λs2 K2 q2 => ?_
   refine hfin (nu s2.heap.objs.size s2.toks s2.gens.size [ν 3]) s2 (zp.post (P.kept.trans K2 λa ha => .inl ha) ?_ rfl rfl rfl rfl rfl)
   have e3:(x::xs).filter f=vs++xs.filter f:=by rw [e1];exact List.filter_append (p:=f) [x] xs
   show Objs s2.heap ads (dict1 w.params s (ν 3) (qaU x xs) (dv+1)::liE (E3 (xs.length+1))::qd (x::xs) n::qd ((x::xs).filter f) (lv+((x::xs).filter f).length)::rest ads)
   rw [e3,show xs.length+1=1+xs.length by lia,G1,←M9,←e2]
   exact q2
  cases hf:f x with
  | true =>
   rw [hf] at q
   exact done [x] (lv+1) (by rw [K8,hf];rfl) rfl q
  | false =>
   rw [hf] at q
   exact done [] lv (by rw [K8,hf];rfl) rfl q
end
end
section
open Sem (wp)
variable {w:T3}
structure OnlyNew (s s':T2) (I S:Nat):Prop where
 keep:∀b o,s.heap.get? b=some o→b≠I→b≠S→s'.heap.get? b=some o
 le:s.heap.objs.size≤s'.heap.objs.size
 g:s'.gens=s.gens
 dr:s'.drawn=s.drawn
 os:s'.os=s.os
theorem OnlyNew.trans {s s1 s2:T2} {I S:Nat} (h:OnlyNew s s1 I S) (h1:OnlyNew s1 s2 I S):OnlyNew s s2 I S :=
 ⟨λb o e h2 h3=>h1.keep b o (h.keep b o e h2 h3) h2 h3,E7 h.le h1.le,h1.g.trans h.g,h1.dr.trans h.dr,h1.os.trans h.os⟩
section
variable {A:Around} {E:T1→T2→Prop} {s:T2}
theorem qgq {it l i:Nat} {xs:List T1} {n:Nat} {x:T1} {Q:Option T1→T2→Prop} (ha:s.heap.get? it=some (liO l (E3 i))) (hb:s.heap.get? l=some (qd xs n)) (hx:xs[i]? = some x)
  (hQ:∀h',h'.get? it=some (liO l (E3 (i+1)))→N1 it s.heap h'→Q (some x) {s with heap:=h'}):wpAny (model prog w) A (pyNext (.ref it)) Q E s:=by
 have hit:s.heap.IsListIter it l i:=⟨_,ha,rfl,rfl⟩
 unfold pyNext
 refine T9 (wpAny_attempt (wpAny_callSpecial?_slot (name:=Str.ofString "__next__") hit.typeIs slot_listiter_next
  (wpAny_call_entry slot_listiter_next hit.typeIs entry_listiter_next ?_ (args_listiter_next _))))
 show wpAny _ _ (field (.ref it) 0 >>= _) _ _ s
 refine T9 (wpAny_field ha rfl (x := .ref l) rfl ?_)
 show wpAny _ _ (if (Value.ref l==Value.none)=true then _ else _) _ _ s
 rw [if_neg (show ¬((Value.ref l==Value.none)=true) from F7)]
 show wpAny _ _ (field (.ref it) 1 >>= _) _ _ s
 refine T9 (wpAny_field ha rfl (x := .int (E3 i) 0) rfl ?_)
 show wpAny _ _ (seqItems? (.ref l) >>= _) _ _ s
 refine T9 (wpAny_seqItems hb rfl ?_)
 have hx':(⟨xs⟩:Array T1)[(E3 i).toNat]? = some x:=by simpa using hx
 simp only [hx']
 exact T9 (wpAny_setField ha rfl (by simp) (wpAny_pure ⟨x,rfl,wpAny_pure (hQ _ (G2 _ ha rfl) (N1.update ..))⟩))
theorem qjL {it l i:Nat} {xs:List T1} {n:Nat} {Q:Option T1→T2→Prop} (hh:A.handled=none) (ha:s.heap.get? it=some (liO l (E3 i))) (hb:s.heap.get? l=some (qd xs n)) (hx:xs[i]? = none)
  (hQ:∀h',(∀b o,s.heap.get? b=some o→b≠it→h'.get? b=some o)→s.heap.objs.size≤h'.objs.size→h'.get? it=some (liE (E3 i))→Q none {s with heap:=h'}):wpAny (model prog w) A (pyNext (.ref it)) Q E s:=by
 have hit:s.heap.IsListIter it l i:=⟨_,ha,rfl,rfl⟩
 unfold pyNext
 refine T9 (wpAny_attempt (wpAny_callSpecial?_slot (name:=Str.ofString "__next__") hit.typeIs slot_listiter_next
  (wpAny_call_entry slot_listiter_next hit.typeIs entry_listiter_next ?_ (args_listiter_next _))))
 show wpAny _ _ (field (.ref it) 0 >>= _) _ _ s
 refine T9 (wpAny_field ha rfl (x := .ref l) rfl ?_)
 show wpAny _ _ (if (Value.ref l==Value.none)=true then _ else _) _ _ s
 rw [if_neg (show ¬((Value.ref l==Value.none)=true) from F7)]
 show wpAny _ _ (field (.ref it) 1 >>= _) _ _ s
 refine T9 (wpAny_field ha rfl (x := .int (E3 i) 0) rfl ?_)
 show wpAny _ _ (seqItems? (.ref l) >>= _) _ _ s
 refine T9 (wpAny_seqItems hb rfl ?_)
 have hx':(⟨xs⟩:Array T1)[(E3 i).toNat]? = none:=by simpa using hx
 simp only [hx']
 refine T9 (wpAny_rule (T9 (wpAny_setField ha rfl (by simp) ?_)))
 show wpAny _ _ (newExc (.type "StopIteration") [] >>= _) _ _ _
 refine T9 ?_
 simp only [newExc,newTuple]
 refine T9 (wpAny_newObj_type ?_ (by size_fits))
 refine T9 (m:=firstArgMember _ _) (wpAny_of_eq (a:=Value.none) (by first | rfl | (simp only [firstArgMember];rfl)) ?_)
 refine wpAny_newObj_type ?_ (by size_fits)
 simp only [raiseNew]
 refine T9 (wpAny_handled ?_)
 rw [show A.in1.handled=none from hh]
 refine T9 (wpAny_pure (wpAny_throw ?_))
 refine T9 (wpAny_isInstance (T:="StopIteration") (b:=true) ⟨_,I4 _ rfl,rfl⟩ isSubtype_stop ?_)
 refine wpAny_pure (hQ _ (λb o e hne=>E8 _ (E8 _ ((F9 _ _ (Ne.symm hne)).trans e))) ?_ (E8 _ (E8 _ (G2 _ ha rfl))))
 rw [J4,J4,J6]
 lia
end
noncomputable def qmw (v:T1):Int:=match v with
 | .int i _=>i
 | _=>0
noncomputable def sumI:List T1→Int
 | []=>0
 | v::vs=>qmw v+sumI vs
theorem qd0 {A:Around} {R:Result→T2→Prop} {I S l:Nat} {xs:List T1} {n:Nat} (hh:A.handled=none) (hIS:I≠S) (hIl:I≠l) (hSl:S≠l):∀(ys:List T1) (i:Nat) (acc:Int) (tA:U1) (c:Nat) (st:Int) (s:T2),xs.drop i=ys→(∀v∈ys,∃a t,v = .int a t)→(st=0∨st=2)→
  s.heap.get? I=some (liO l (E3 i))→s.heap.get? l=some (qd xs n)→s.heap.get? S=some (qd [.int acc tA] c)→
  (∀s' t',OnlyNew s s' I S→R (.ok (.ret (.int (acc+sumI ys) t'))) s')→codeAny (model prog w) A (.builtin "sum.loop" ⟨[.ref I, .ref S,rawInt st,rawInt 0],[]⟩) R s
 | [],i,acc,tA,c,st,s,hx,hy,hst,hI,hl,hS,hR=>by
  have hx':xs[i]? = none:=by rw [←M2,hx];rfl
  refine codeAny_builtin F.entry_sum_loop ?_
  rw [G4 F.plain_sum_loop _]
  show wpAny _ A.in1 (seqItems? (.ref S) >>= _) _ _ s
  refine T9 (wpAny_seqItems hS rfl ?_)
  show wpAny _ A.in1 (tryCatch (pyNext (.ref I)) _ >>= _) _ _ s
  refine T9 (wpAny_tryCatch (qjL hh hI hl hx' λh' k1 k2 _ => ?_))
  have z:=hR {s with heap:=h'} tA ⟨λb o e h2 h3=>k1 b o e h2,k2,rfl,rfl,rfl⟩
  rw [show acc+sumI []=acc from Int.add_zero _] at z
  exact wpAny_pure z
 | y::ys,i,acc,tA,c,st,s,hx,hy,hst,hI,hl,hS,hR=>by
  obtain ⟨hx1,hx2⟩:=vA hx
  obtain ⟨a,t,rfl⟩:=hy y (.head _)
  refine codeAny_builtin F.entry_sum_loop ?_
  rw [G4 F.plain_sum_loop _]
  show wpAny _ A.in1 (seqItems? (.ref S) >>= _) _ _ s
  refine T9 (wpAny_seqItems hS rfl ?_)
  show wpAny _ A.in1 (tryCatch (pyNext (.ref I)) _ >>= _) _ _ s
  refine T9 (wpAny_tryCatch (qgq hI hl hx1 λh' k1 k2 => ?_))
  have hS':h'.get? S=some (qd [.int acc tA] c):=(k2.2 S (Ne.symm hIS)).trans hS
  have hl':h'.get? l=some (qd xs n):=(k2.2 l (Ne.symm hIl)).trans hl
  have goOn:∀(st':Int) (tk:U1) (k:Nat) (c':Nat) (h2:Heap),(st'=0∨st'=2)→h2.objs.size=h'.objs.size→(∀b,b≠S→h2.get? b=h'.get? b)→h2.get? S=some (qd [.int (acc+a) tk] c')→
    codeAny (model prog w) A (.builtin "sum.loop" ⟨[.ref I, .ref S,rawInt st',rawInt 0],[]⟩) R {s with heap:=h2,toks:=k}:=λst' tk k c' h2 e1 e2 e3 e4=>by
   refine qd0 hh hIS hIl hSl ys (i+1) (acc+a) tk c' st' {s with heap:=h2,toks:=k} hx2 (λv hv=>hy v (.tail _ hv)) e1 ((e3 I hIS).trans k1) ((e3 l (Ne.symm hSl)).trans hl') e4 λs' t' q => ?_
   have z:=hR s' t' ⟨λb o e h4 h5=>q.keep b o ((e3 b h5).trans ((k2.2 b h4).trans e)) h4 h5,by have:=q.le;have h6:h2.objs.size=s.heap.objs.size:=e2.trans k2.1;have q2:h2.objs.size≤s'.heap.objs.size:=this;lia,q.g,q.dr,q.os⟩
   rw [show acc+sumI (.int a t::ys)=acc+a+sumI ys from by show acc+(a+sumI ys)=_;lia] at z
   exact z
  have upd:∀(h2:Heap) (ob:Obj) (f:Obj→Obj),h2.get? S=some ob→(h2.update S f).objs.size=h2.objs.size∧∀b,b≠S→(h2.update S f).get? b=h2.get? b:=λh2 ob f e=>⟨J6 ..,λb hb=>F9 _ _ (Ne.symm hb)⟩
  rcases hst with rfl | rfl
  ·show wpAny _ A.in1 (if (_:Bool)=true then (mkInt (acc+a) >>= _) else _) _ _ _
   split
   ·refine T9 (wpAny_mkInt ?_)
    show wpAny _ A.in1 (updateSeq S (λ_ => #[.int (acc+a) s.toks]) >>= _) _ _ _
    refine T9 (wpAny_updateSeq hS' rfl (wpAny_pure ⟨plainId_quiet F.plain_sum_loop _,goOn 0 s.toks (s.toks+1) c _ (.inl rfl) (upd _ _ _ hS').1 (upd _ _ _ hS').2 (G2 _ hS' rfl)⟩))
   ·refine T9 (wpAny_rule ?_)
    refine T9 (wpAny_attempt (wpAny_holding (wpAny_add_int ?_)))
    show wpAny _ A.in1 (updateSeq S (λ_ => #[.int (acc+a) s.toks]) >>= _) _ _ _
    refine T9 (wpAny_updateSeq hS' rfl ?_)
    have hS2:=G2 (Obj.mapSeq λ_ => #[Value.int (acc+a) s.toks]) hS' rfl
    refine T9 (wpAny_letGo ?_)
    refine T9 (wpAny_updateSeq hS2 rfl (wpAny_pure ⟨plainId_quiet F.plain_sum_loop _,goOn 2 s.toks (s.toks+1) c _ (.inr rfl) ((upd _ _ _ hS2).1.trans (upd _ _ _ hS').1) (λb hb=>((upd _ _ _ hS2).2 b hb).trans ((upd _ _ _ hS').2 b hb)) (G2 _ hS2 rfl)⟩))
  ·show wpAny _ A.in1 ((holding [Value.int a t] (binaryOp .Add (.int acc tA) (.int a t))).attempt >>= _) _ _ _
   refine T9 (wpAny_attempt (wpAny_holding (wpAny_add_int ?_)))
   show wpAny _ A.in1 (updateSeq S (λ_ => #[.int (acc+a) s.toks]) >>= _) _ _ _
   refine T9 (wpAny_updateSeq hS' rfl ?_)
   have hS2:=G2 (Obj.mapSeq λ_ => #[Value.int (acc+a) s.toks]) hS' rfl
   refine T9 (wpAny_letGo ?_)
   refine T9 (wpAny_updateSeq hS2 rfl (wpAny_pure ⟨plainId_quiet F.plain_sum_loop _,goOn 2 s.toks (s.toks+1) c _ (.inr rfl) ((upd _ _ _ hS2).1.trans (upd _ _ _ hS').1) (λb hb=>((upd _ _ _ hS2).2 b hb).trans ((upd _ _ _ hS').2 b hb)) (G2 _ hS2 rfl)⟩))
noncomputable def jS (xs:List T1) (n:Nat) (S:Int):Ctr where
 code ads := .builtin "sum" ⟨[.ref (adF ads 0 0)],[]⟩
 ok _:=[]
 pre _:=[qd xs n]
 res _ ν := .done (.ok (.ret (.int S (ν 3))))
 post _ _:=[qd xs n]
 news _ _:=[]
 frz:=[]
theorem q7 {lev:Nat} {xs:List T1} {n:Nat} {S:Int} (hy:∀v∈xs,∃a t,v = .int a t) (hS:sumI xs=S):VC w lev (jS xs n S):=by
 intro A ads s R h0 hd hu hkt hok hnd hoff hob hfz hbare hfin
 obtain ⟨a,rfl⟩:∃a,ads=[a]:=by
  match ads,hob with
  | [a],_=>exact ⟨a,rfl⟩
 subst hS
 have ha:s.heap.get? a=some (qd xs n):=hob.1
 have hal:a<s.heap.objs.size:=I0 ha
 refine codeAny_builtin F.entry_sum ?_
 rw [G4 F.plain_sum _]
 unfold Builtin.«sum»
 show wpAny _ A.in1 _ _ _ s
 simp only [K7,S5]
 rw [if_neg (by decide)]
 refine T9 (wpAny_of_eq (show Builtin.Builtins.bindParams "sum" ["start"] 0 {}=pure [none] from rfl) ?_)
 refine T9 (wpAny_pyIter_list ⟨_,ha,rfl,_,rfl⟩ ?_)
 refine T9 (wpAny_mkInt ?_)
 refine T9 (wpAny_pure ?_)
 simp only [L0,M7]
 refine T9 (T9 (T9 (wpAny_isInstance (T:="int") (b:=false) (typeIs_int _ _ _) PySem.sub_int_str ?_)))
 simp only [K3,if_false]
 refine wpAny_pure (T9 (T9 (wpAny_isInstance (T:="int") (b:=false) (typeIs_int _ _ _) PySem.sub_int_bytes ?_)))
 simp only [K3,if_false]
 refine wpAny_pure (T9 (T9 (wpAny_isInstance (T:="int") (b:=false) (typeIs_int _ _ _) PySem.sub_int_bytearray ?_)))
 simp only [K3,if_false]
 refine wpAny_pure (wpAny_pure ?_)
 refine T9 (wpAny_newObj_type ?_)
 let h1:=s.heap.push (liO a (E3 0))
 let h2:=h1.push (qd [.int 0 s.toks] 0)
 have e1:h1.objs.size=s.heap.objs.size+1:=J4 ..
 have e2:h2.objs.size=s.heap.objs.size+2:=(J4 ..).trans (by rw [e1])
 have gI:h2.get? s.heap.objs.size=some (liO a (E3 0)):=E8 _ (I4 _ rfl)
 have gS:h2.get? h1.objs.size=some (qd [.int 0 s.toks] 0):=I4 _ rfl
 have gl:h2.get? a=some (qd xs n):=E8 _ (E8 _ ha)
 refine wpAny_pure ⟨plainId_quiet F.plain_sum_loop _,qd0 (I:=s.heap.objs.size) (S:=h1.objs.size) (l:=a) (xs:=xs) (n:=n) h0 (by lia) (by lia) (by lia) xs 0 0 s.toks 0 0 {s with heap:=h2,toks:=s.toks+1} rfl hy (.inl rfl) gI gl gS λs' t' q => ?_⟩
 have k:∀(b:Nat) o,s.heap.get? b=some o→s'.heap.get? b=some o:=λb o e=>by
  have hb:b<s.heap.objs.size:=I0 e
  exact q.keep b o (E8 _ (E8 _ e)) (N2 hb) (N2 (by rw [e1];exact O3 hb))
 have hle:=q.le
 have hle:h2.objs.size≤s'.heap.objs.size:=hle
 have z:=hfin (nu s'.heap.objs.size s'.toks s'.gens.size [t']) s' ⟨⟨k a _ ha,trivial⟩,trivial,F8,(λa h=>nomatch h),λb o e _=>k b o e,by show s.heap.objs.size≤s'.heap.objs.size;lia,rfl,rfl,rfl,by rw [q.g];exact F4 _,λi _=>by rw [q.g],(by rw [q.g];exact hbare),q.dr,q.os,λk hk=>nomatch hk⟩
 rw [Int.zero_add]
 exact z
end
section
open Sem (wp)
variable {w:T3}
noncomputable def qhT (xs:List T1) (n:Nat) (i:Int) (t:U1) (x:T1):Ctr where
 code ads := .builtin "list.__getitem__" ⟨[.ref (adF ads 0 0), .int i t],[]⟩
 ok _:=[]
 pre _:=[qd xs n]
 res _ _ := .done (.ok (.ret x))
 post _ _:=[qd xs n]
 news _ _:=[]
 frz:=[]
theorem qcc {lev:Nat} {xs:List T1} {n:Nat} {i:Int} {t:U1} {x:T1} (h0:0≤i) (h1:i<1000) (hx:xs[i.toNat]? = some x):VC w lev (qhT xs n i t x):=by
 intro A ads s R hh hd hu hkt hok hnd hoff hob hfz hbare hfin
 obtain ⟨a,rfl⟩:∃a,ads=[a]:=by
  match ads,hob with
  | [a],_=>exact ⟨a,rfl⟩
 have ho:s.heap.get? a=some (qd xs n):=hob.1
 have z:=hfin (nu s.heap.objs.size s.toks s.gens.size []) s ⟨hob,trivial,F8,(λa h=>nomatch h),λb o e _=>e,F4 _,rfl,rfl,rfl,F4 _,λ_ _=>rfl,hbare,rfl,rfl,λk hk=>nomatch hk⟩
 refine codeAny_builtin PySem.F.entry_list_getitem ?_
 rw [G4 qbZ]
 show wpAny _ _ (Builtin.List.listSubscript? (.int i t) >>= _) _ _ s
 refine T9 (wpAny_listSubscript_int (fitsIndex_of h0 (by lia)) ?_)
 clear h1
 obtain ⟨j,rfl⟩:=J5 h0
 have hx':(⟨xs⟩:Array T1)[j]? = some x:=by simpa using hx
 show wpAny _ _ ((seqItemAt a j >>= λr=>pure (r.map (j, ·))) >>= _) _ _ s
 refine T9 (T9 (wpAny_seqItemAt ho rfl (wpAny_pure ?_)))
 rw [hx']
 first
  | exact T9 (wpAny_pure (wpAny_pure z))
  | exact wpAny_pure z
structure qdj (o1 o2:Obj):Prop where
 ex:∃(ns:List U2) (ts us:List U1) (n m:Nat),o1=qd (strsT ns ts) n∧o2=qd (strsT ns us) m∧ts.length=ns.length∧us.length=ns.length
noncomputable def qqa (o1 o2:Obj):Ctr where
 code ads := .builtin "list.__ne__" ⟨[.ref (adF ads 0 0), .ref (adF ads 0 1)],[]⟩
 ok _:=[]
 pre _:=[o1,o2]
 res _ _ := .done (.ok (.ret (.bool false)))
 post _ _:=[o1,o2]
 news _ _:=[]
 frz:=[]
 fside:=some λ_=>qdj o1 o2
theorem qjk:plainId "list.__ne__"=true:=by decide +kernel
theorem uO:∀(ns:List U2) (ts:List U1),ts.length=ns.length→(strsT ns ts).length=ns.length
 | [],_,_=>rfl
 | n::ns,t::ts,h=>congrArg G6 (uO ns ts (G6.inj h))
theorem qbc:∀(ns:List U2) (ts:List U1) (j:Nat) (v:T1),(strsT ns ts)[j]? = some v→∃x t,ns[j]? = some x∧v = .str x t
 | [],_,j,v,h=>nomatch (show none=some v from (O4 (α:=T1) (i:=j))▸h)
 | n::ns,[],j,v,h=>nomatch (show none=some v from (O4 (α:=T1) (i:=j))▸h)
 | n::ns,t::ts,0,v,h=>⟨n,t,rfl,(Option.some.inj h).symm⟩
 | n::ns,t::ts,j+1,v,h=>qbc ns ts j v h
theorem qjB {lev:Nat} {o1 o2:Obj}:VC w (lev+1) (qqa o1 o2):=by
 intro A ads s R hh hd hu hkt hok hnd hoff hob hfz hbare hfin
 obtain ⟨a,b,rfl⟩:∃a b,ads=[a,b]:=by
  match ads,hob with
  | [a,b],_=>exact ⟨a,b,rfl⟩
 obtain ⟨_,⟨ns,ts,us,n,m,rfl,rfl,h1,h2⟩,_⟩:=hfz
 have ha:s.heap.get? a=some (qd (strsT ns ts) n):=hob.1
 have hb:s.heap.get? b=some (qd (strsT ns us) m):=hob.2.1
 have z:=hfin (nu s.heap.objs.size s.toks s.gens.size []) s ⟨hob,trivial,F8,(λa h=>nomatch h),λb o e _=>e,F4 _,rfl,rfl,rfl,F4 _,λ_ _=>rfl,hbare,rfl,rfl,λk hk=>nomatch hk⟩
 refine codeAny_builtin PySem.F.entry_list_ne ?_
 rw [G4 qjk]
 refine PySem.SeqAt.list_neAt a b ⟨strsT ns ts⟩ ⟨strsT ns us⟩ n m none none #[] #[] (by show (strsT ns ts).length=(strsT ns us).length;rw [uO _ _ h1,uO _ _ h2]) (λ_=>true) prog w A R s ⟨ha,hb,λj j1 j2 => ?_,?_⟩
 ·obtain ⟨x,t,e1,e2⟩:=qbc ns ts j _ (show (strsT ns ts)[j]? = some (strsT ns ts)[j] from O8 j1)
  obtain ⟨y,u,e3,e4⟩:=qbc ns us j _ (show (strsT ns us)[j]? = some (strsT ns us)[j] from O8 j2)
  rw [e1] at e3
  cases e3
  show PySem.SeqAt.EqAt _ s (strsT ns ts)[j] (strsT ns us)[j] true
  rw [e2,e4]
  have q:=(eqGives_str x x t u).at A.in1 s
  rw [beq_self_eq_true] at q
  exact q
 ·have e:(!(G8 (⟨strsT ns ts⟩:Array T1).size).all λ_=>true)=false:=by simp
  rw [e]
  exact z
noncomputable def qjZ (xs:List T1) (n m:Nat) (r:Bool):Ctr where
 code ads := .builtin "list.__eq__" ⟨[.ref (adF ads 0 0), .ref (adF ads 0 1)],[]⟩
 ok _:=[]
 pre _:=[qd xs n,qd [] m]
 res _ _ := .done (.ok (.ret (.bool r)))
 post _ _:=[qd xs n,qd [] m]
 news _ _:=[]
 frz:=[]
 fside:=some λ_=>xs.isEmpty=r
theorem qjl:plainId "list.__eq__"=true:=by decide +kernel
theorem zP {lev:Nat} {xs:List T1} {n m:Nat} {r:Bool}:VC w lev (qjZ xs n m r):=by
 intro A ads s R hh hd hu hkt hok hnd hoff hob hfz hbare hfin
 obtain ⟨a,b,rfl⟩:∃a b,ads=[a,b]:=by
  match ads,hob with
  | [a,b],_=>exact ⟨a,b,rfl⟩
 obtain ⟨_,e,_⟩:=hfz
 subst e
 have ha:s.heap.get? a=some (qd xs n):=hob.1
 have hb:s.heap.get? b=some (qd [] m):=hob.2.1
 have z:=hfin (nu s.heap.objs.size s.toks s.gens.size []) s ⟨hob,trivial,F8,(λa h=>nomatch h),λb o e _=>e,F4 _,rfl,rfl,rfl,F4 _,λ_ _=>rfl,hbare,rfl,rfl,λk hk=>nomatch hk⟩
 refine codeAny_builtin PySem.F.entry_list_eq ?_
 rw [G4 qjl]
 cases xs with
 | nil=>exact PySem.SeqAt.list_eqAt a b ⟨[]⟩ ⟨[]⟩ n m none none #[] #[] rfl (λ_=>true) prog w A R s ⟨ha,hb,λj j1 j2=>absurd j1 (Nat.not_lt_zero _),z⟩
 | cons x xs=>exact PySem.SeqAt.list_eq_lengthsAt a b ⟨x::xs⟩ ⟨[]⟩ n m none none #[] #[] (by simp) prog w A R s ⟨ha,hb,z⟩
noncomputable def baO (b:Array UInt8):Obj:={cls := .type "bytearray",data := .bytearray b}
noncomputable def octL (vs:List T1):List UInt8:=vs.map λv=>(qmw v).toNat.toUInt8
noncomputable def qkg (vs:List T1) (n:Nat) (r:Array UInt8):Ctr where
 code ads := .builtin "bytes.__new__.loop" ⟨[.type "bytes", .ref (adF ads 0 0), .ref (adF ads 0 1)],[]⟩
 ok _:=[]
 pre ads:=[liO (adF ads 0 2) (E3 0),baO #[],qd vs n]
 res _ ν := .done (.ok (.ret (.bytes r (ν 3))))
 post _ _:=[liE (E3 vs.length),baO r,qd vs n]
 news _ _:=[]
 frz:=[]
theorem qfw {A:Around} {R:Result→T2→Prop} {I S l:Nat} {xs:List T1} {n:Nat} (hh:A.handled=none) (hIS:I≠S) (hIl:I≠l) (hSl:S≠l):∀(ys:List T1) (i:Nat) (arr:Array UInt8) (s:T2),xs.drop i=ys→(∀v∈ys,∃a t,v = .int a t∧0≤a∧a<256)→arr.size+ys.length≤1000→
  s.heap.get? I=some (liO l (E3 i))→s.heap.get? l=some (qd xs n)→s.heap.get? S=some (baO arr)→
  (∀s' t',OnlyNew s s' I S→s'.heap.get? I=some (liE (E3 (i+ys.length)))→s'.heap.get? S=some (baO ⟨arr.toList++octL ys⟩)→R (.ok (.ret (.bytes ⟨arr.toList++octL ys⟩ t'))) s')→codeAny (model prog w) A (.builtin "bytes.__new__.loop" ⟨[.type "bytes", .ref I, .ref S],[]⟩) R s
 | [],i,arr,s,hx,hy,hz,hI,hl,hS,hR=>by
  have hx':xs[i]? = none:=by rw [←M2,hx];rfl
  refine codeAny_builtin F.bm_entry_loop ?_
  rw [G4 F.bm_plain_loop _]
  show wpAny _ A.in1 (pyNext (.ref I) >>= _) _ _ s
  refine T9 (qjL hh hI hl hx' λh' k1 k2 k3 => ?_)
  have hS':h'.get? S=some (baO arr):=k1 S _ hS (Ne.symm hIS)
  refine T9 ?_
  unfold Builtin.Bytes.payload Builtin.Bytes.payload?
  refine T9 (T9 (wpAny_load hS' ?_))
  refine wpAny_pure (wpAny_pure ?_)
  refine T9 (wpAny_mkBytes ?_ (by show arr.size≤sizeLine;unfold sizeLine;lia))
  show wpAny _ _ (if (Value.type "bytes"==Value.type "bytes")=true then _ else _) _ _ _
  refine bm_if_true (by decide) ?_
  have e:(⟨arr.toList++octL []⟩:Array UInt8)=arr:=by show (⟨arr.toList++[]⟩:Array UInt8)=arr;rw [I8]
  have z:=hR {s with heap:=h',toks:=s.toks+1} s.toks ⟨λb o e h2 h3=>k1 b o e h2,k2,rfl,rfl,rfl⟩ k3 (by rw [e];exact hS')
  rw [e] at z
  first
   | exact wpAny_pure z
   | exact T9 (wpAny_pure (wpAny_pure z))
 | y::ys,i,arr,s,hx,hy,hz,hI,hl,hS,hR=>by
  obtain ⟨hx1,hx2⟩:=vA hx
  obtain ⟨a,t,rfl,a0,a1⟩:=hy y (.head _)
  have hz:arr.size+(ys.length+1)≤1000:=hz
  refine codeAny_builtin F.bm_entry_loop ?_
  rw [G4 F.bm_plain_loop _]
  show wpAny _ A.in1 (pyNext (.ref I) >>= _) _ _ s
  refine T9 (qgq hI hl hx1 λh' k1 k2 => ?_)
  have hS':h'.get? S=some (baO arr):=(k2.2 S (Ne.symm hIS)).trans hS
  have hl':h'.get? l=some (qd xs n):=(k2.2 l (Ne.symm hIl)).trans hl
  refine T9 (wpAny_holding (wpAny_of_eq (rfl:asIndex (.int a t)=pure a) ?_))
  refine T9 (wpAny_letGo ?_)
  refine bm_if_false (by simp only [Q2,decide_eq_false_iff_not];lia) ?_
  refine T9 ?_
  show wpAny _ _ (updateBytearray S (·.push a.toNat.toUInt8)) _ _ _
  unfold updateBytearray
  refine T9 (wpAny_load hS' ?_)
  show wpAny _ _ (update S (K9 (·.push a.toNat.toUInt8)) >>= λ_=>lookBehind S) _ _ _
  refine T9 (wpAny_update hS' ?_)
  have hS2:(h'.update S (K9 (·.push a.toNat.toUInt8))).get? S=some (baO (arr.push a.toNat.toUInt8)):=G2 (K9 (·.push a.toNat.toUInt8)) hS' rfl
  have hoth:∀b:Nat,b≠S→(h'.update S (K9 (·.push a.toNat.toUInt8))).get? b=h'.get? b:=λb hb=>F9 _ _ (Ne.symm hb)
  have hsz:(h'.update S (K9 (·.push a.toNat.toUInt8))).objs.size=h'.objs.size:=J6 ..
  refine wpAny_lookBehind hS2 ?_ ?_
  ·show (if (arr.push a.toNat.toUInt8).size>sizeLine then some "bytearray:memory" else none)=none
   rw [if_neg]
   rw [K4]
   unfold sizeLine
   lia
  ·have e:((arr.push a.toNat.toUInt8).toList++octL ys)=arr.toList++octL (.int a t::ys):=by
    rw [Array.toList_push,L4];rfl
   refine wpAny_pure ⟨plainId_quiet F.bm_plain_loop _,qfw hh hIS hIl hSl ys (i+1) (arr.push a.toNat.toUInt8) {s with heap:=h'.update S (K9 (·.push a.toNat.toUInt8))} hx2 (λv hv=>hy v (.tail _ hv)) (by rw [K4];lia) ((hoth I hIS).trans k1) ((hoth l (Ne.symm hSl)).trans hl') hS2 λs' t' q q1 q2 => ?_⟩
   rw [e] at q2 ⊢
   refine hR s' t' ⟨λb o e h4 h5=>q.keep b o ((hoth b h5).trans ((k2.2 b h4).trans e)) h4 h5,by have h6:(h'.update S (K9 (·.push a.toNat.toUInt8))).objs.size≤s'.heap.objs.size:=q.le;rw [hsz,k2.1] at h6;exact h6,q.g,q.dr,q.os⟩ ?_ q2
   rw [show i+(Value.int a t::ys).length=i+1+ys.length by show i+(ys.length+1)=_;lia]
   exact q1
theorem qfV {lev:Nat} {vs:List T1} {n:Nat} {r:Array UInt8} (hy:∀v∈vs,∃a t,v = .int a t∧0≤a∧a<256) (hl:vs.length≤1000) (hr:octL vs=r.toList):VC w lev (qkg vs n r):=by
 intro A ads s R hh hd hu hkt hok hnd hoff hob hfz hbare hfin
 obtain ⟨I,S,l,rfl⟩:∃I S l,ads=[I,S,l]:=by
  match ads,hob with
  | [I,S,l],_=>exact ⟨I,S,l,rfl⟩
 have h1:I≠S:=λe=>(F3.mp hnd).1 (e▸ .head _)
 have h2:I≠l:=λe=>(F3.mp hnd).1 (e▸ .tail _ (.head _))
 have h3:S≠l:=λe=>(F3.mp (F3.mp hnd).2).1 (e▸ .head _)
 refine qfw hh h1 h2 h3 vs 0 #[] s rfl hy (by simpa using hl) hob.1 hob.2.2.1 hob.2.1 λs' t' q q1 q2 => ?_
 have e:(⟨(#[]:Array UInt8).toList++octL vs⟩:Array UInt8)=r:=by
  rw [hr];rfl
 rw [e] at q2 ⊢
 rw [O5] at q1
 exact hfin (nu s'.heap.objs.size s'.toks s'.gens.size [t']) s' ⟨⟨q1,q2,q.keep l _ hob.2.2.1 (Ne.symm h2) (Ne.symm h3),trivial⟩,trivial,F8,(λa h=>nomatch h),λb o e hb=>q.keep b o e (λh=>hb (h▸ .head _)) (λh=>hb (h▸ .tail _ (.head _))),q.le,rfl,rfl,rfl,by rw [q.g];exact F4 _,λi _=>by rw [q.g],(by rw [q.g];exact hbare),q.dr,q.os,λk hk=>nomatch hk⟩
end
noncomputable def nA:U2:=⟨#[97]⟩
noncomputable def nX:U2:=⟨#[120]⟩
noncomputable def nLo:U2:=⟨#[108,111]⟩
noncomputable def nHi:U2:=⟨#[104,105]⟩
noncomputable def qk1:U2:=⟨#[107,101,121]⟩
noncomputable def qs6:U2:=⟨#[109,105,100]⟩
noncomputable def qBL:U2:=⟨#[98,105,115,101,99,116,95,108,101,102,116,46,60,108,111,99,97,108,115,62,46]⟩
noncomputable def qBR:U2:=⟨#[98,105,115,101,99,116,95,114,105,103,104,116,46,60,108,111,99,97,108,115,62,46]⟩
noncomputable def qmI (fd:T5) (env:Env):Code:=match fd.body with
 | .stmts l=>match lGet l 2 with
  | some s=>match s with
   | .If _ b _ _=>match b with
    | [] => .body [] env
    | s::_=>match s with
     | .While t b o _ => .whileLoop t b o env
     | _ => .body [] env
   | _ => .body [] env
  | none => .body [] env
 | _ => .body [] env
noncomputable def biA (r:Bool):Nat:=match r with | true=>66 | false=>75
noncomputable def jF (r:Bool) (fd:T5) (F:Nat):Env:={scope:=fd.scope,locals:=F,globals:=3,cells:=[],qual:=match r with | true=>qBR | false=>qBL,func:=some (biA r),code := .ref (biA r-1),frame:=some F,builtins:=0}
noncomputable def uM (r:Bool) (fd:T5) (F:Nat):Code:=qmI fd (jF r fd F)
structure BT where
 ka:U1
 kx:U1
 kl:U1
 kh:U1
 kk:U1
 la:U1
 x:Int
 xt:U1
noncomputable def zz:Array UInt8 := #[65,66,67,68,69,70,71,72,73,74,75,76,77,78,79,80]
noncomputable def biO (p:T4) (m:BT) (lo:Int) (lt:U1) (hi:Int) (ht:U1) (late:Bool) (km:U1) (mid:Int) (mt:U1):Obj:=match late with
 | true=>frO [ent p nA m.ka (.bytes zz m.la),ent p nX m.kx (.int m.x m.xt),ent p nLo m.kl (.int lo lt),ent p nHi m.kh (.int hi ht),ent p qk1 m.kk .none,ent p qs6 km (.int mid mt)] 6
 | false=>frO [ent p nA m.ka (.bytes zz m.la),ent p nX m.kx (.int m.x m.xt),ent p nLo m.kl (.int lo lt),ent p nHi m.kh (.int hi ht),ent p qk1 m.kk .none] 5
noncomputable def yp (p:T4) (fd:T5) (r up:Bool) (m:BT) (lo:Int) (lt:U1) (hi:Int) (ht:U1) (late:Bool) (km:U1) (mid:Int) (mt:U1) (md:Int):Ctr where
 code ads:=uM r fd (adF ads 0 0)
 ok ads:=[]
 pre ads:=[biO p m lo lt hi ht late km mid mt]
 res ads ν := .go (uM r fd (adF ads 0 0))
 post ads ν:=match up with
  | true=>[biO p m (md+1) (ν 3) hi ht true (ν 4) md (ν 5)]
  | false=>[biO p m lo lt md (ν 3) true (ν 4) md (ν 5)]
 news ads ν:=[]
 frz:=[]
noncomputable def qcn (p:T4) (fd:T5) (r:Bool) (m:BT) (lo:Int) (lt:U1) (hi:Int) (ht:U1) (late:Bool) (km:U1) (mid:Int) (mt:U1):Ctr where
 code ads:=uM r fd (adF ads 0 0)
 ok ads:=[]
 pre ads:=[biO p m lo lt hi ht late km mid mt]
 res ads ν := .done (.ok .next)
 post ads ν:=[biO p m lo lt hi ht late km mid mt]
 news ads ν:=[]
 frz:=[]
noncomputable def qkj (p:T4) (fd:T5) (r:Bool) (m:BT) (lo:Int) (lt:U1) (hi:Int) (ht:U1) (res:Int) (lb:Bool):Ctr where
 code ads:=uM r fd (adF ads 0 0)
 ok ads:=[]
 pre ads:=[biO p m lo lt hi ht false 0 0 0]
 res ads ν := .done (.ok .next)
 post ads ν:=[biO p m res (ν 3) res (ν 4) lb (ν 5) (E3 (ν 6)) (ν 7)]
 news ads ν:=[]
 frz:=[]
noncomputable def qmP:U2:=⟨#[95,108,97,119,95,98,111,117,110,100,115,46,60,108,111,99,97,108,115,62,46]⟩
noncomputable def qpI:U2:=⟨#[108,97,119,46,60,108,111,99,97,108,115,62,46]⟩
noncomputable def qjy:U2:=⟨#[102,117,114,116,104,101,114]⟩
noncomputable def qjx:U2:=⟨#[108,101,116,116,101,114,115]⟩
noncomputable def qjw:U2:=⟨#[108,111,115,116]⟩
noncomputable def qeH:U2:=⟨#[114,111,111,109]⟩
noncomputable def qeI:U2:=⟨#[108,97,100,100,101,114]⟩
noncomputable def qgj:U2:=⟨#[100,114,101,115,115]⟩
noncomputable def qbp:U2:=⟨#[110,117,109,98,101,114]⟩
noncomputable def envBounds (fd:T5) (F:Nat):Env:={scope:=fd.scope,locals:=F,globals:=3,cells:=[],qual:=qmP,func:=some 284,code := .ref 283,frame:=some F,builtins:=0}
noncomputable def envLaw (fd:T5) (F:Nat) (c:Nat→Nat):Env:={scope:=fd.scope,locals:=F,globals:=3,cells:=[(qjy,c 6),(qjx,c 5),(qjw,c 4),(qeH,c 3),(qeI,c 2),(qgj,c 1),(qbp,c 0)],qual:=qpI,func:=some 289,code := .ref 288,frame:=some F,builtins:=0}
noncomputable def wU (r:Bool) (fd:T5) (F:Nat):Code:=match fd.body with
 | .stmts l => .func l (jF r fd F)
 | _ => .body [] default
noncomputable def rdB (F L:Nat):Array (Option T1) := #[some (.ref 283),some (.ref 3),none,some (.ref L),none,some (.ref 284),some (.ref 0)]
noncomputable def rdI (r:Bool) (B:Nat):Array (Option T1) := #[some (.ref (biA r-1)),some (.ref 3),none,some (.ref B),none,some (.ref (biA r)),some (.ref 0)]
noncomputable def bkV (n:Nat):T1:=match n with
 | 0 => .none
 | _+1 => .notImplemented
noncomputable def rdL (bk:T1) (c:Nat→Nat):Array (Option T1) := #[some (.ref 288),some (.ref 3),none,some bk,none,some (.ref 289),some (.ref 0),some (.ref (c 6)),some (.ref (c 5)),some (.ref (c 4)),some (.ref (c 3)),some (.ref (c 2)),some (.ref (c 1)),some (.ref (c 0))]
noncomputable def frS (es:List DictEntry) (n:Nat) (sl:Array (Option T1)):Obj:=⟨.type "frame",none, .dict ⟨es⟩ n,sl⟩
noncomputable def frD (d:Data) (sl:Array (Option T1)):Obj:=⟨.type "frame",none,d,sl⟩
noncomputable def plI (a b:Nat):Int:=match a with
 | 0=>E3 b
 | _+1=>Int.negSucc b
noncomputable def qhj (ν:Nat→Nat):U2:=⟨((G8 (ν 48)).map λi=>ν (60+i)).toArray⟩
noncomputable def plV (ν:Nat→Nat) (k:Nat):T1:=match ν 40 with
 | 0 => .none
 | _+1=>match k with
  | 0=>rawInt (plI (ν 41) (ν 42))
  | 1=>rawInt (plI (ν 43) (ν 44))
  | 2=>rawInt (plI (ν 45) (ν 46))
  | 3=>rawInt (plI (ν 50) (ν 51))
  | 4=>match ν 47 with
   | 0 => .none
   | _+1 => .str (qhj ν) 0
  | _=>match ν 49 with
   | 0 => .bool false
   | _+1 => .bool true
noncomputable def qbB (T:T1) (a:Nat):Obj:=⟨.type "ValueError",none, .fields #[.ref a,T, .none, .none, .bool false, .none],#[]⟩
noncomputable def qh6 (F:Nat) (ν:Nat→Nat):Obj:=⟨.type "traceback",none, .fields #[.none, .ref F, .none, .none, .none,plV ν 0,plV ν 1,plV ν 2,plV ν 3,plV ν 4,plV ν 5],#[]⟩
noncomputable def biF (p:T4) (m:BT) (lt:U1) (sl:Array (Option T1)):Obj:=frS [ent p nA m.ka (.bytes zz m.la),ent p nX m.kx (.int m.x m.xt),ent p nLo m.kl (.int (-1) lt),ent p nHi m.kh .none,ent p qk1 m.kk .none] 5 sl
noncomputable def jn (p:T4) (fd:T5) (r:Bool) (m:BT) (lt:U1) (os:List Obj):Ctr where
 code ads:=wU r fd (adF ads 0 0)
 ok ads:=[]
 pre ads:=biF p m lt #[]::os
 res ads ν := .done (.error (.ref (ν 3)))
 post ads ν:=biF p m lt #[]::os
 news ads ν:=[qbB .none (ν 4)]
 frz:=[]
noncomputable def qa1 (p:T4) (fd fdo fdl:T5) (r rd:Bool) (m:BT) (lt:U1) (d1 d2:Data) (sl2:Array (Option T1)) (cs:List Obj):Ctr where
 code ads:=wU r fd (adF ads 0 0)
 ok ads:=[]
 pre ads:=biF p m lt #[]::(match rd with
  | true=>[frD d1 (rdB (adF ads 0 1) (adF ads 0 2)),frD d2 sl2]
  | false=>[frD d1 #[],frD d2 #[]])++cs
 res ads ν := .done (.error (.ref (ν 3)))
 post ads ν:=biF p m lt (rdI r (adF ads 0 1))::(match rd with
  | true=>[frD d1 (rdB (adF ads 0 1) (adF ads 0 2)),frD d2 sl2]
  | false=>[frD d1 (rdB (adF ads 0 1) (adF ads 0 2)),frD d2 (rdL (bkV (ν 5)) (λi=>adF ads 0 (3+i)))])++cs
 news ads ν:=[qbB (.ref (ν 4)) (ν 6),qh6 (adF ads 0 0) ν]
 frz:=[]
 frs:=some λads=>[envBounds fdo (adF ads 0 1),envLaw fdl (adF ads 0 2) (λi=>adF ads 0 (3+i))]
section
noncomputable def qeG:U2:=⟨#[119,105,100,101]⟩
noncomputable def qgi:U2:=⟨#[112,97,105,114,115]⟩
noncomputable def qng:U2:=⟨#[115,109,97,108,108]⟩
noncomputable def qq8 (fd:T5) (F:Nat):Env:={scope:=fd.scope,locals:=F,globals:=3,cells:=[],qual:=qp2,func:=some 277,code := .ref 276,frame:=some F,builtins:=0}
noncomputable def forIn (s:Stmt) (it:T1) (env:Env):Code:=match s with
 | .For t _ b o _ => .forLoop t it b o env
 | _ => .body [] env
noncomputable def qrm (fd:T5) (F it:Nat):Code:=forIn (w3 fd 1) (.ref it) (qq8 fd F)
noncomputable def qh7:Nat→Nat→Nat→List (Nat×Nat)→List (Nat×Nat)
 | 0,_,_,ps=>ps
 | f+1,small,wide,ps=>match (ps.map (·.2)).contains small with
  | true=>qh7 f (small+1) wide ps
  | false=>qh7 f (small+1) wide (ps++[(small,small+wide*ps.length)])
noncomputable def zC (wide:Nat):List (Nat×Nat):=qh7 16 0 wide []
noncomputable def qrl (ν:Nat→Nat):Nat→List (Nat×Nat)→List PT
 | _,[]=>[]
 | k,p::ps=>⟨E3 p.1,ν k,E3 p.2,ν (k+1)⟩::qrl ν (k+2) ps
noncomputable def qjv (ν:Nat→Nat):Nat→Nat→List T1
 | _,0=>[]
 | k,m+1 => .ref (ν k)::qjv ν (k+1) m
noncomputable def wq (p:T4) (fd:T5) (wide:Nat) (kn kw kp:U1) (num:Int) (tn tw:U1):Ctr where
 code ads:=qrm fd (adF ads 0 0) (adF ads 0 1)
 ok _:=[]
 pre ads:=[frO [ent p qbp kn (.int num tn),ent p qeG kw (.int (E3 wide) tw),ent p qgi kp (.ref (adF ads 0 2))] 3,zx 0 16,qd [] 0]
 res _ _ := .done (.ok .next)
 post ads ν:=[frO [ent p qbp kn (.int num tn),ent p qeG kw (.int (E3 wide) tw),ent p qgi kp (.ref (adF ads 0 2)),ent p qng (ν (3+3*(zC wide).length)) (.int 15 (ν (4+3*(zC wide).length)))] 4,zx 16 0,qd (qjv ν 3 (zC wide).length) (zC wide).length]
 news _ ν:=(qrl ν (3+(zC wide).length) (zC wide)).map ptO
 frz:=[]
noncomputable def mmC (id:String) (a:Int) (t:U1) (b:Int) (u:U1) (m:Int) (tm:U1):Ctr where
 code _ := .builtin id ⟨[.int a t, .int b u],[]⟩
 ok _:=[]
 pre _:=[]
 res _ _ := .done (.ok (.ret (.int m tm)))
 post _ _:=[]
 news _ _:=[]
 frz:=[]
noncomputable def wr (num:Int) (tn:U1) (wide:Nat) (tw:U1) (r:Bool):Ctr where
 code _ := .call (.ref 277) ⟨[.int num tn, .int (E3 wide) tw],[]⟩
 ok _:=[]
 pre _:=[]
 res _ _ := .done (.ok (.ret (.bool r)))
 post _ _:=[]
 news _ _:=[]
 frz:=[]
noncomputable def qp (o:Obj):List T1:=match o.data with
 | .seq xs _=>xs.toList
 | _=>[]
noncomputable def tkI (vs:List T1) (k:Nat):U1:=match lGet vs k with
 | some v=>match v with
  | .int _ t=>t
  | _=>0
 | none=>0
noncomputable def qF (l:List (Nat×Nat)) (os:List Obj):List PT:=match l with
 | []=>[]
 | p::l=>match os with
  | []=>⟨E3 p.1,0,E3 p.2,0⟩::qF l []
  | o::os=>⟨E3 p.1,tkI (qp o) 0,E3 p.2,tkI (qp o) 1⟩::qF l os
noncomputable def psL (l:List (Nat×Nat)) (vs:List T1):List PT:=match l with
 | []=>[]
 | p::l=>match vs with
  | []=>⟨E3 p.1,0,E3 p.2,0⟩::psL l []
  | v::vs=>⟨E3 p.1,0,E3 p.2,tkI [v] 0⟩::psL l vs
noncomputable def qx (os:List Obj) (k:Nat):List Obj:=match k with
 | 0=>os
 | k+1=>match os with
  | []=>[]
  | _::os=>qx os k
noncomputable def qL (ps:List PT) (n:Nat) (x:Int) (t:U1) (r:Bool):Ctr where
 code ads := .builtin "list.__contains__" ⟨[.ref (adF ads 0 0), .int x t],[]⟩
 ok _:=[]
 pre _:=[qd (jM ps) n]
 res _ _ := .done (.ok (.ret (.bool r)))
 post _ _:=[qd (jM ps) n]
 news _ _:=[]
 frz:=[]
theorem psAt_len:∀(l:List (Nat×Nat)) (os:List Obj),(qF l os).length=l.length
 | [],_=>rfl
 | p::l,[]=>congrArg G6 (psAt_len l [])
 | p::l,o::os=>congrArg G6 (psAt_len l os)
theorem w8 (f:Int→Int→Bool):∀(l:List (Nat×Nat)) (os:List Obj),(qF l os).any (λp=>f p.a p.b)=l.any λp=>f (E3 p.1) (E3 p.2)
 | [],_=>rfl
 | p::l,[]=>congrArg (f (E3 p.1) (E3 p.2) || ·) (w8 f l [])
 | p::l,o::os=>congrArg (f (E3 p.1) (E3 p.2) || ·) (w8 f l os)
theorem qo (f:Int→Bool):∀(l:List (Nat×Nat)) (vs:List T1),(psL l vs).any (λp=>f p.b)=l.any λp=>f (E3 p.2)
 | [],_=>rfl
 | p::l,[]=>congrArg (f (E3 p.2) || ·) (qo f l [])
 | p::l,v::vs=>congrArg (f (E3 p.2) || ·) (qo f l vs)
section
variable {w:T3}
theorem qj {lev:Nat} {ps:List PT} {n:Nat} {x:Int} {t:U1} {r:Bool} (h:ps.any (λq=>q.b==x)=r):VC w lev (qL ps n x t r):=by
 intro A ads s R h0 hd hu hkt hok hnd hoff hob hfz hbare hfin
 obtain ⟨a,rfl⟩:∃a,ads=[a]:=by
  match ads,hob with
  | [a],_=>exact ⟨a,rfl⟩
 subst h
 have ho:s.heap.get? a=some (qd (jM ps) n):=hob.1
 refine codeAny_builtin PySem.F.entry_list_contains ?_
 rw [G4 ug]
 refine PySem.SeqAt.list_containsAt a ⟨jM ps⟩ n none #[] (.int x t) (λv=>qD v==x) prog w A R s ⟨ho,λy hy => ?_,?_⟩
 ·have hy:y∈jM ps:=by simpa using hy
  obtain ⟨q,_,rfl⟩:=I6.mp hy
  exact λprog w E Q hq=>wpAny_eqBool_int hq
 ·have e:(⟨jM ps⟩:Array T1).any (λv=>qD v==x)=ps.any (λq=>q.b==x):=by
   have e1:(⟨jM ps⟩:Array T1).any (λv=>qD v==x)=(jM ps).any (λv=>qD v==x):=by simp
   rw [e1]
   unfold jM
   rw [List.any_map]
   rfl
  rw [e]
  exact hfin (nu s.heap.objs.size s.toks s.gens.size []) _ ⟨hob,trivial,F8,(λa h=>nomatch h),λb o e _=>e,F4 _,rfl,rfl,rfl,F4 _,λ_ _=>rfl,hbare,rfl,rfl,λk hk=>nomatch hk⟩
end
end
noncomputable def jP:U2:=⟨#[112,111,115,105,116,105,111,110]⟩
noncomputable def vt:U2:=⟨#[115,105,122,101]⟩
noncomputable def qrD (s:Stmt):Expr:=match s with
 | .Assign _ v _=>v
 | _ => .Name ⟨#[]⟩ ⟨0,0,0,0⟩
noncomputable def qmE (e:Expr) (k:Nat):Expr:=match e with
 | .Call _ as _ _=>match lGet as k with
  | some a=>a
  | none => .Name ⟨#[]⟩ ⟨0,0,0,0⟩
 | e=>e
noncomputable def qh5 (fd:T5) (e:Expr) (F D:Nat) (cells:List (U2×Nat)):Env:={scope:=qlc (qd6 e),locals:=D,globals:=3,cells:=cells,qual:=qpI,func:=none,code := .ref 288,frame:=some F,builtins:=0}
noncomputable def qjW (fd:T5):Expr:=qrD (w3 fd 18)
noncomputable def qqQ (fd:T5):Expr:=qmE (qmE (qrq (ifT (st0 (qqX (w3 fd 13))))) 1) 0
noncomputable def wG (fd:T5) (F:Nat) (ads:List Nat):Code := .compLoop (qjW fd) 0 (.ref (adF ads 0 1)) (.ref (adF ads 0 3)) (qh5 fd (qjW fd) F (adF ads 0 0) [(qjw,adF ads 0 4)])
noncomputable def qao (fd:T5) (F:Nat) (ads:List Nat):Code := .compLoop (qqQ fd) 0 (.ref (adF ads 0 1)) (.ref (adF ads 0 3)) (qh5 fd (qqQ fd) F (adF ads 0 0) [(qeH,adF ads 0 4)])
noncomputable def wF (ls:List T1) (m:Nat) (ads:List Nat):List Obj:=[zl (.ref (adF ads 0 5)),qd ls m]
noncomputable def qan (room:Int) (rt:U1) (ads:List Nat):List Obj:=[zl (.int room rt)]
noncomputable def qeZ (vs:List T1) (n:Nat) (x:Int) (t:U1) (r:Bool):Ctr where
 code ads := .builtin "list.__contains__" ⟨[.ref (adF ads 0 0), .int x t],[]⟩
 ok _:=[]
 pre _:=[qd vs n]
 res _ _ := .done (.ok (.ret (.bool r)))
 post _ _:=[qd vs n]
 news _ _:=[]
 frz:=[]
theorem vx {w:T3} {lev:Nat} {vs:List T1} {n:Nat} {x:Int} {t:U1} {r:Bool} (hv:∀v∈vs,∃i u,v = .int i u) (h:vs.any (λv=>qD v==x)=r):VC w lev (qeZ vs n x t r):=by
 intro A ads s R h0 hd hu hkt hok hnd hoff hob hfz hbare hfin
 obtain ⟨a,rfl⟩:∃a,ads=[a]:=by
  match ads,hob with
  | [a],_=>exact ⟨a,rfl⟩
 subst h
 have ho:s.heap.get? a=some (qd vs n):=hob.1
 refine codeAny_builtin PySem.F.entry_list_contains ?_
 rw [G4 ug]
 refine PySem.SeqAt.list_containsAt a ⟨vs⟩ n none #[] (.int x t) (λv=>qD v==x) prog w A R s ⟨ho,λy hy => ?_,?_⟩
 ·obtain ⟨i,u,rfl⟩:=hv y (by simpa using hy)
  exact λprog w E Q hq=>wpAny_eqBool_int hq
 ·have e:(⟨vs⟩:Array T1).any (λv=>qD v==x)=vs.any (λv=>qD v==x):=by simp
  rw [e]
  exact hfin (nu s.heap.objs.size s.toks s.gens.size []) _ ⟨hob,trivial,F8,(λa h=>nomatch h),λb o e _=>e,F4 _,rfl,rfl,rfl,F4 _,λ_ _=>rfl,hbare,rfl,rfl,λk hk=>nomatch hk⟩
section
variable {w:T3}
noncomputable def fdY (p:T4):T5:=qdP (ktOf p 289)
noncomputable def qa9 (C:Ctr) (P:Prop):Ctr:={C with fside:=some λ_=>P}
theorem side_valid {lev:Nat} {C:Ctr} {P:Prop} (h:P→VC w lev C) (h1:C.fside=none:=by rfl) (h2:C.frz=[]:=by rfl):VC w lev (qa9 C P):=by
 intro A ads s R h0 hd hu hkt hok hnd hoff hob hfz hbare hfin
 obtain ⟨_,p,_⟩:=hfz
 refine h p A ads s R h0 hd hu hkt hok hnd hoff hob (by unfold FrzOk;rw [h1];show ∀k∈C.frz,_;rw [h2];exact λk hk=>nomatch hk) hbare λν s' Q => ?_
 exact hfin ν s' ⟨Q.post,Q.news,Q.nodup,Q.ge,Q.keep,Q.le0,Q.sz,Q.tk,Q.gs,Q.le2,Q.gk,Q.bare,Q.dr,Q.os,Q.kp⟩
theorem qsn (F:Nat) (k:U1) (v0:T1) (dv:Nat) (xs:List T1) (n i:Nat) (p:Int) (tp:U1) (vs:List T1) (lv:Nat) (ls:List T1) (m a0 a1 a2 a3 a4 a5:Nat):RunOk w (flT w.params (wG (fdY w.params) F) jP true true k v0 dv xs n i (.int p tp) vs lv (wF ls m)) 6 39 [a0,a1,a2,a3,a4,a5] [] [2,2,1,1,1,5,6,6,6,1,4] [] [(cX 1 (λ_ _=>jr xs n i (.int p tp)) [1,2]),(cX 1 (λ_ _=>qeZ ls m p tp true) [5]),(cX 1 (λ_ _=>yK vs lv (.int p tp)) [3]),⟨0,none,[]⟩] (λa N t0 gN=>[]) (λa N t0 gN=>[]):=λN t0 gN a x' y' z'=>by
 kernel_rfl
theorem qsf (F:Nat) (k:U1) (v0:T1) (dv:Nat) (xs:List T1) (n i:Nat) (p:Int) (tp:U1) (vs:List T1) (lv:Nat) (room:Int) (rt a0 a1 a2 a3 a4:Nat):RunOk w (flT w.params (qao (fdY w.params) F) vt true true k v0 dv xs n i (.int p tp) vs lv (qan room rt)) 5 34 [a0,a1,a2,a3,a4] [] [2,2,1,1,1,5,1,4] [oT] [(cX 1 (λ_ _=>jr xs n i (.int p tp)) [1,2]),(cX 1 (λ_ _=>yK vs lv (.int p tp)) [3]),⟨0,none,[]⟩] (λa N t0 gN=>[(.bool (decide (p≤room)), .bool true)]) (λa N t0 gN=>[]):=λN t0 gN a x' y' z'=>by
 kernel_rfl
theorem qso (F:Nat) (k:U1) (v0:T1) (dv:Nat) (xs:List T1) (n i:Nat) (p:Int) (tp:U1) (vs:List T1) (lv:Nat) (ls:List T1) (m a0 a1 a2 a3 a4 a5:Nat):RunOk w (flT w.params (wG (fdY w.params) F) jP true false k v0 dv xs n i (.int p tp) vs lv (wF ls m)) 6 34 [a0,a1,a2,a3,a4,a5] [] [2,2,1,1,1,5,6,6,6] [] [(cX 1 (λ_ _=>jr xs n i (.int p tp)) [1,2]),(cX 1 (λ_ _=>qeZ ls m p tp false) [5]),⟨0,none,[]⟩] (λa N t0 gN=>[]) (λa N t0 gN=>[]):=λN t0 gN a x' y' z'=>by
 kernel_rfl
theorem qsg (F:Nat) (k:U1) (v0:T1) (dv:Nat) (xs:List T1) (n i:Nat) (p:Int) (tp:U1) (vs:List T1) (lv:Nat) (room:Int) (rt a0 a1 a2 a3 a4:Nat):RunOk w (flT w.params (qao (fdY w.params) F) vt true false k v0 dv xs n i (.int p tp) vs lv (qan room rt)) 5 29 [a0,a1,a2,a3,a4] [] [2,2,1,1,1,5] [oF] [(cX 1 (λ_ _=>jr xs n i (.int p tp)) [1,2]),⟨0,none,[]⟩] (λa N t0 gN=>[(.bool (decide (p≤room)), .bool false)]) (λa N t0 gN=>[]):=λN t0 gN a x' y' z'=>by
 kernel_rfl
theorem qtk (F:Nat) (k:U1) (v0:T1) (dv:Nat) (xs:List T1) (n i:Nat) (vs:List T1) (lv:Nat) (ls:List T1) (m a0 a1 a2 a3 a4 a5:Nat):RunOk w (flE w.params (wG (fdY w.params) F) jP true k v0 dv xs n i vs lv (wF ls m)) 6 17 [a0,a1,a2,a3,a4,a5] [] [2,2,7] [] [(cX 1 (λ_ _=>va xs n i) [1,2])] (λa N t0 gN=>[]) (λa N t0 gN=>[]):=λN t0 gN a x' y' z'=>by
 kernel_rfl
theorem qta (F:Nat) (k:U1) (v0:T1) (dv:Nat) (xs:List T1) (n i:Nat) (vs:List T1) (lv:Nat) (room:Int) (rt a0 a1 a2 a3 a4:Nat):RunOk w (flE w.params (qao (fdY w.params) F) vt true k v0 dv xs n i vs lv (qan room rt)) 5 17 [a0,a1,a2,a3,a4] [] [2,2,6] [] [(cX 1 (λ_ _=>va xs n i) [1,2])] (λa N t0 gN=>[]) (λa N t0 gN=>[]):=λN t0 gN a x' y' z'=>by
 kernel_rfl
theorem qsp (F:Nat) (k:U1) (v0:T1) (dv:Nat) (xs:List T1) (n i:Nat) (p:Int) (tp:U1) (vs:List T1) (lv:Nat) (ls:List T1) (m a0 a1 a2 a3 a4 a5:Nat):RunOk w (flT w.params (wG (fdY w.params) F) jP false true k v0 dv xs n i (.int p tp) vs lv (wF ls m)) 6 39 [a0,a1,a2,a3,a4,a5] [] [2,2,1,1,1,5,6,6,6,1,4] [] [(cX 1 (λ_ _=>jr xs n i (.int p tp)) [1,2]),(cX 1 (λ_ _=>qeZ ls m p tp true) [5]),(cX 1 (λ_ _=>yK vs lv (.int p tp)) [3]),⟨0,none,[]⟩] (λa N t0 gN=>[]) (λa N t0 gN=>[a.c 0 1+0]):=λN t0 gN a x' y' z'=>by
 kernel_rfl
theorem qsh (F:Nat) (k:U1) (v0:T1) (dv:Nat) (xs:List T1) (n i:Nat) (p:Int) (tp:U1) (vs:List T1) (lv:Nat) (room:Int) (rt a0 a1 a2 a3 a4:Nat):RunOk w (flT w.params (qao (fdY w.params) F) vt false true k v0 dv xs n i (.int p tp) vs lv (qan room rt)) 5 34 [a0,a1,a2,a3,a4] [] [2,2,1,1,1,5,1,4] [oT] [(cX 1 (λ_ _=>jr xs n i (.int p tp)) [1,2]),(cX 1 (λ_ _=>yK vs lv (.int p tp)) [3]),⟨0,none,[]⟩] (λa N t0 gN=>[(.bool (decide (p≤room)), .bool true)]) (λa N t0 gN=>[a.c 0 1+0]):=λN t0 gN a x' y' z'=>by
 kernel_rfl
theorem qsq (F:Nat) (k:U1) (v0:T1) (dv:Nat) (xs:List T1) (n i:Nat) (p:Int) (tp:U1) (vs:List T1) (lv:Nat) (ls:List T1) (m a0 a1 a2 a3 a4 a5:Nat):RunOk w (flT w.params (wG (fdY w.params) F) jP false false k v0 dv xs n i (.int p tp) vs lv (wF ls m)) 6 34 [a0,a1,a2,a3,a4,a5] [] [2,2,1,1,1,5,6,6,6] [] [(cX 1 (λ_ _=>jr xs n i (.int p tp)) [1,2]),(cX 1 (λ_ _=>qeZ ls m p tp false) [5]),⟨0,none,[]⟩] (λa N t0 gN=>[]) (λa N t0 gN=>[a.c 0 1+0]):=λN t0 gN a x' y' z'=>by
 kernel_rfl
theorem qsi (F:Nat) (k:U1) (v0:T1) (dv:Nat) (xs:List T1) (n i:Nat) (p:Int) (tp:U1) (vs:List T1) (lv:Nat) (room:Int) (rt a0 a1 a2 a3 a4:Nat):RunOk w (flT w.params (qao (fdY w.params) F) vt false false k v0 dv xs n i (.int p tp) vs lv (qan room rt)) 5 29 [a0,a1,a2,a3,a4] [] [2,2,1,1,1,5] [oF] [(cX 1 (λ_ _=>jr xs n i (.int p tp)) [1,2]),⟨0,none,[]⟩] (λa N t0 gN=>[(.bool (decide (p≤room)), .bool false)]) (λa N t0 gN=>[a.c 0 1+0]):=λN t0 gN a x' y' z'=>by
 kernel_rfl
theorem qtl (F:Nat) (k:U1) (v0:T1) (dv:Nat) (xs:List T1) (n i:Nat) (vs:List T1) (lv:Nat) (ls:List T1) (m a0 a1 a2 a3 a4 a5:Nat):RunOk w (flE w.params (wG (fdY w.params) F) jP false k v0 dv xs n i vs lv (wF ls m)) 6 17 [a0,a1,a2,a3,a4,a5] [] [2,2,7] [] [(cX 1 (λ_ _=>va xs n i) [1,2])] (λa N t0 gN=>[]) (λa N t0 gN=>[]):=λN t0 gN a x' y' z'=>by
 kernel_rfl
theorem qtb (F:Nat) (k:U1) (v0:T1) (dv:Nat) (xs:List T1) (n i:Nat) (vs:List T1) (lv:Nat) (room:Int) (rt a0 a1 a2 a3 a4:Nat):RunOk w (flE w.params (qao (fdY w.params) F) vt false k v0 dv xs n i vs lv (qan room rt)) 5 17 [a0,a1,a2,a3,a4] [] [2,2,6] [] [(cX 1 (λ_ _=>va xs n i) [1,2])] (λa N t0 gN=>[]) (λa N t0 gN=>[]):=λN t0 gN a x' y' z'=>by
 kernel_rfl
noncomputable def jI (ls:List T1) (v:T1):Bool:=ls.any λu=>qD u==qD v
noncomputable def ladF (room:Int) (v:T1):Bool:=decide (qD v≤room)
noncomputable def qH (xs:List T1):Prop:=∀v∈xs,∃i u,v = .int i u
theorem qH.at {xs:List T1} (h:qH xs) {i:Nat} {x:T1} (e:xs[i]? = some x):∃p tp,x = .int p tp:=h x (Q3 e)
theorem y8 {ne:Bool} {F dv:Nat} {xs:List T1} {n lv:Nat} {ls:List T1} {m:Nat} (hx:qH xs) (hl:qH ls) (hm:xs.length≤1000) (hne:xs.isEmpty = !ne):VC w 1 (qfi w.params ne (wG (fdY w.params) F) jP dv xs n lv (jI ls) (wF ls m)):=by
 refine qce (λlate k v0 dv i x vs lv hxi hv => ?_) (λlate k v0 dv i vs lv hxi => ?_) hm hne
 ·obtain ⟨p,tp,rfl⟩:=hx.at hxi
  refine qu 6 λads hl' hok => ?_
  obtain ⟨a0,a1,a2,a3,a4,a5,rfl⟩:=qfk hl'
  cases hb:jI ls (.int p tp) <;> cases late
  ·exact (C2 (qsq F k v0 dv xs n i p tp vs lv ls m a0 a1 a2 a3 a4 a5) (qa (λ_ _=>zm hxi) (qa (λ_ _=>vx hl hb) (qK B0))) (λ_ _ _ _ _ h=>nomatch h))
  ·exact (C2 (qso F k v0 dv xs n i p tp vs lv ls m a0 a1 a2 a3 a4 a5) (qa (λ_ _=>zm hxi) (qa (λ_ _=>vx hl hb) (qK B0))) (λ_ _ _ _ _ h=>nomatch h))
  ·exact (C2 (qsp F k v0 dv xs n i p tp vs lv ls m a0 a1 a2 a3 a4 a5) (qa (λ_ _=>zm hxi) (qa (λ_ _=>vx hl hb) (qa (λ_ _=>zv hv) (qK B0)))) (λ_ _ _ _ _ h=>nomatch h))
  ·exact (C2 (qsn F k v0 dv xs n i p tp vs lv ls m a0 a1 a2 a3 a4 a5) (qa (λ_ _=>zm hxi) (qa (λ_ _=>vx hl hb) (qa (λ_ _=>zv hv) (qK B0)))) (λ_ _ _ _ _ h=>nomatch h))
 ·refine qu 6 λads hl' hok => ?_
  obtain ⟨a0,a1,a2,a3,a4,a5,rfl⟩:=qfk hl'
  cases late
  ·exact (C2 (qtl F k v0 dv xs n i vs lv ls m a0 a1 a2 a3 a4 a5) (qa (λ_ _=>j7 hxi) B0) (λ_ _ _ _ _ h=>nomatch h))
  ·exact (C2 (qtk F k v0 dv xs n i vs lv ls m a0 a1 a2 a3 a4 a5) (qa (λ_ _=>j7 hxi) B0) (λ_ _ _ _ _ h=>nomatch h))
theorem qtc {ne:Bool} {F dv:Nat} {xs:List T1} {n lv:Nat} {room:Int} {rt:U1} (hx:qH xs) (hm:xs.length≤1000) (hne:xs.isEmpty = !ne):VC w 1 (qfi w.params ne (qao (fdY w.params) F) vt dv xs n lv (ladF room) (qan room rt)):=by
 refine qce (λlate k v0 dv i x vs lv hxi hv => ?_) (λlate k v0 dv i vs lv hxi => ?_) hm hne
 ·obtain ⟨p,tp,rfl⟩:=hx.at hxi
  refine qu 5 λads hl' hok => ?_
  obtain ⟨a0,a1,a2,a3,a4,rfl⟩:=qlC hl'
  have q:∀b:Bool,ladF room (.int p tp)=b→∀z∈[(Value.bool (decide (p≤room)),Value.bool b)],z.1=z.2:=λb hb z hz=>by
   rcases E2.mp hz with rfl | hz
   ·exact vb hb
   ·cases hz
  cases hb:ladF room (.int p tp) <;> cases late
  ·exact (C2 (qsi F k v0 dv xs n i p tp vs lv room rt a0 a1 a2 a3 a4) (qa (λ_ _=>zm hxi) (qK B0)) (λ_ _ _ _=>q _ hb))
  ·exact (C2 (qsg F k v0 dv xs n i p tp vs lv room rt a0 a1 a2 a3 a4) (qa (λ_ _=>zm hxi) (qK B0)) (λ_ _ _ _=>q _ hb))
  ·exact (C2 (qsh F k v0 dv xs n i p tp vs lv room rt a0 a1 a2 a3 a4) (qa (λ_ _=>zm hxi) (qa (λ_ _=>zv hv) (qK B0))) (λ_ _ _ _=>q _ hb))
  ·exact (C2 (qsf F k v0 dv xs n i p tp vs lv room rt a0 a1 a2 a3 a4) (qa (λ_ _=>zm hxi) (qa (λ_ _=>zv hv) (qK B0))) (λ_ _ _ _=>q _ hb))
 ·refine qu 5 λads hl' hok => ?_
  obtain ⟨a0,a1,a2,a3,a4,rfl⟩:=qlC hl'
  cases late
  ·exact (C2 (qtb F k v0 dv xs n i vs lv room rt a0 a1 a2 a3 a4) (qa (λ_ _=>j7 hxi) B0) (λ_ _ _ _ _ h=>nomatch h))
  ·exact (C2 (qta F k v0 dv xs n i vs lv room rt a0 a1 a2 a3 a4) (qa (λ_ _=>j7 hxi) B0) (λ_ _ _ _ _ h=>nomatch h))
end
noncomputable def qni:U2:=⟨#[115,99,114,105,112,116]⟩
noncomputable def qqd:U2:=⟨#[104,111,115,116,115]⟩
noncomputable def qqb:U2:=⟨#[119,111,114,100,115]⟩
noncomputable def qqc:U2:=⟨#[115,112,101,108,116]⟩
noncomputable def qnj:U2:=⟨#[114,111,111,109,115]⟩
structure LwT where
 k0:U1
 k1:U1
 k2:U1
 k3:U1
 k4:U1
 k5:U1
 vs:T1
 vw:T1
 vd:T1
 vp:T1
 n:Nat
noncomputable def qmt (p:T4) (l:LwT) (H rooms:Nat) (sl:Array (Option T1)):Obj:=frS [ent p qni l.k0 l.vs,ent p qeG l.k1 l.vw,ent p qqd l.k2 (.ref H),ent p qqb l.k3 l.vd,ent p qqc l.k4 l.vp,ent p qnj l.k5 (.ref rooms)] l.n sl
noncomputable def qf9 (fd:T5) (F it:Nat) (c:Nat→Nat):Code:=forIn (w3 fd 13) (.ref it) (envLaw fd F c)
noncomputable def qmD (o:Option T1):Obj:=⟨.type "cell",none, .cell o,#[]⟩
noncomputable def qg8 (p:T4) (fd:T5) (l:LwT) (sl:Array (Option T1)) (rs:List T1) (rn i:Nat) (room:Int) (rt:U1) (o:Option T1) (o0 o1 o4 o5 o6:Obj) (hs:List T1) (hn:Nat) (lad:List T1) (ln:Nat):Ctr where
 code ads:=qf9 fd (adF ads 0 2) (adF ads 0 0) (λk=>adF ads 0 (3+k))
 ok _:=[]
 pre ads:=[liO (adF ads 0 1) (E3 i),qd rs rn,qmt p l (adF ads 0 10) (adF ads 0 1) sl,o0,o1,zl (.ref (adF ads 0 11)),qmD o,o4,o5,o6,qd hs hn,qd lad ln]
 res ads _ := .go (qf9 fd (adF ads 0 2) (adF ads 0 0) (λk=>adF ads 0 (3+k)))
 post ads _:=[liO (adF ads 0 1) (E3 i+1),qd rs rn,qmt p l (adF ads 0 10) (adF ads 0 1) sl,o0,o1,zl (.ref (adF ads 0 11)),qmD (some (.int room rt)),o4,o5,o6,qd hs hn,qd lad ln]
 news _ _:=[]
 frz:=[]
section
variable {w:T3}
noncomputable def qpX (xs:List T1):T1×T1:=(.bool (decide (((⟨xs⟩:Array T1).size:Int)≥2 ^ 63)), .bool false)
theorem qr3 (l:LwT) (sl:Array (Option T1)) (rs:List T1) (rn i:Nat) (room:Int) (rt:U1) (o:Option T1) (o0 o1 o4 o5 o6:Obj) (hs:List T1) (hn:Nat) (lad:List T1) (ln:Nat) (name:U2) (tn:U1) (ss:List U2) (a0 a1 a2 a3 a4 a5 a6 a7 a8 a9 a10 a11:Nat):RunF w (qg8 w.params (fdY w.params) l sl rs rn i room rt o o0 o1 o4 o5 o6 hs hn lad ln) 12 107 [a0,a1,a2,a3,a4,a5,a6,a7,a8,a9,a10,a11] [] (hx 0x10111d0dd5000fd0010d00ed000cd06d030f333030f0bd203d00d007d001d) [(1, .bool false)] [(cX 1 (λ_ _=>jr rs rn i (.int room rt)) [0,1]),(cX 1 (λ_ _=>qhT hs hn room rt (.str name tn)) [10]),(cX 0 (λc _=>zZ name (qe c 0) ss) []),(cX 1 (λ_ _=>qhT hs hn room rt (.str name tn)) [10]),(cX 3 (λc os=>qfi w.params true (qao (fdY w.params) (qhW c)) vt (dcN (at0 os 0)) lad ln (qB (at0 os 3)) (ladF room) (qan room rt)) [15,13,11,14,6]),(cX 4 (λc _=>endsX name (qe c 0) (lad.filter (ladF room)).length (qe c 1) ss) []),(cX 1 (λ_ os=>qqa (at0 os 0) (at0 os 1)) [12,16]),⟨0,none,[]⟩] (λa N t0 gN=>[qpX (lad.filter (ladF room))]) (λa N t0 gN=>adF [] 0) (λa N t0 gN=>[qdj (qd (strsT (name::ss) (tn::nuT (a.c 2) ss.length)) ss.length) (qd (strsT (name::ss) (tn::nuT (a.c 5) ss.length)) 0)]):=λN t0 gN a x' y' z'=>by
 kernel_rfl
structure RoomOk (w:T3) (hs lad:List T1) (room:Int) (name:U2) (tn:U1) (ss:List U2):Prop where
 r0:0≤room
 r1:room<1000
 at_:hs[room.toNat]? = some (.str name tn)
 le:ss.length≤6
 ok:zF name ss=true
 ends:∀t u,VC w 2 (endsX name t (lad.filter (ladF room)).length u ss)
 li:qH lad
 ll:lad.length≤900
 lne:lad.isEmpty = !true
theorem jk {l:LwT} {sl:Array (Option T1)} {rs:List T1} {rn i:Nat} {room:Int} {rt:U1} {o:Option T1} {o0 o1 o4 o5 o6:Obj} {hs:List T1} {hn:Nat} {lad:List T1} {ln:Nat} {name:U2} {tn:U1} {ss:List U2} (h:RoomOk w hs lad room name tn ss) (hi:rs[i]? = some (.int room rt)):VC w 3 (qg8 w.params (fdY w.params) l sl rs rn i room rt o o0 o1 o4 o5 o6 hs hn lad ln):=by
 refine q8 12 λads hl hok => ?_
 obtain ⟨a0,a1,a2,a3,a4,a5,a6,a7,a8,a9,a10,a11,rfl⟩:=qsr hl
 have hn':(lad.filter (ladF room)).length≤900:=E7 (P7 _ _) h.ll
 refine (qI.mk9 (qr3 l sl rs rn i room rt o o0 o1 o4 o5 o6 hs hn lad ln name tn ss a0 a1 a2 a3 a4 a5 a6 a7 a8 a9 a10 a11) (qa (λ_ _=>zm hi) (qa (λ_ _=>qcc h.r0 h.r1 h.at_) (qa (λ_ _=>qfL h.le h.ok) (qa (λ_ _=>qcc h.r0 h.r1 h.at_) (qa (λ_ _=>(qtc h.li (by have:=h.ll;lia) h.lne).up) (qa (λ_ _=>h.ends _ _) (qa (λ_ _=>qjB) (qK B0)))))))) (λ_ _ _ _ p hp => ?_) (λa N t0 gN P hP => ?_))
 ·simp only [E2,F5,or_false] at hp
  rcases hp with rfl
  exact vb (decide_eq_false (by have e:(⟨lad.filter (ladF room)⟩:Array T1).size=(lad.filter (ladF room)).length:=rfl;rw [e];lia))
 ·rcases E2.mp hP with rfl | hP
  ·exact ⟨_,_,_,_,_,rfl,rfl,by simp [nuT],by simp [nuT]⟩
  ·cases hP
end
noncomputable def ladT:List Int→List U1→List T1
 | [],_=>[]
 | x::xs,ts=>match ts with
  | []=>[]
  | t::ts => .int x t::ladT xs ts
noncomputable def hostC (room:Int) (t:U1) (lad:List Int) (ts:List U1) (lv:Nat) (tail:U2) (t2:U1) (r:U2):Ctr where
 code ads := .call (.ref 248) ⟨[.int room t, .ref (adF ads 0 0), .str tail t2],[]⟩
 ok _:=[]
 pre _:=[qd (ladT lad ts) lv]
 res _ ν := .done (.ok (.ret (.str r (ν 3))))
 post _ _:=[qd (ladT lad ts) lv]
 news _ _:=[]
 frz:=[]
noncomputable def hostVq (labs:List U2) (tail r:U2):List (T1×T1):=[(.bool (decide (r.length>sizeLine)), .bool false),(.str (Builtin.Str.glued zy (labs++[tail])) 0, .str r 0),(.bool (zA zy (labs++[tail])), .bool false)]
noncomputable def qjS (fd:T5):Expr:=qrD (w3 fd 5)
noncomputable def qny (fd:T5) (F:Nat) (ads:List Nat):Code := .compLoop (qjS fd) 0 (.ref (adF ads 0 1)) (.ref (adF ads 0 2)) (qh5 fd (qjS fd) F (adF ads 0 0) [(qeI,adF ads 0 3),(qgj,adF ads 0 4)])
noncomputable def ve (p:T4) (fd:T5) (F dv:Nat) (dress:Int) (dt:U1) (lad:List Int) (ts:List U1) (ln lv:Nat) (hs:List U2):Ctr where
 code ads:=qny fd F ads
 ok _:=[]
 pre ads:=[yM dv,zx 0 16,qd [] lv,zl (.ref (adF ads 0 5)),zl (.int dress dt),qd (ladT lad ts) ln]
 res _ _ := .done (.ok .next)
 post ads ν:=[dict1 p qeH (ν 3) (.int 15 (ν 4)) (dv+1),zx 16 0,qd (strsT hs (nuT ν 16)) (lv+16),zl (.ref (adF ads 0 5)),zl (.int dress dt),qd (ladT lad ts) ln]
 news _ _:=[]
 frz:=[]
section
variable {w:T3}
noncomputable def tailS (t:Nat):U2:=match t with
 | 0=>⟨#[108,111,99,97,108]⟩
 | 1=>⟨#[120,46,110,101,116]⟩
 | _=>⟨#[121,46,120,108,111,99,97,108]⟩
noncomputable def hostsT (q x:Int) (dress:Int) (t u:U1):List (T1×T1):=[(.int (E9 q 3) u, .int x u),(.int (F6 dress 3) t, .int q t),(.bool (E4 dress 3), .bool false)]
noncomputable def vE:List Nat:=hx 0x118d0e19e16d1819e15d1819e14d1819e13d1819e12d1819e11d1819e10d1819e0fd1819e0ed1819e0dd1819e0cd1819e0bd1819e0ad1819e09d1219e641f08d6613065f60f03d41f07d05d04d100d001d5f02d
theorem qnx (F dv:Nat) (dress:Int) (dt:U1) (lad:List Int) (ts:List U1) (ln lv:Nat) (h0 h1 h2 h3 h4 h5 h6 h7 h8 h9 h10 h11 h12 h13 h14 h15:U2) (q:Int) (a0 a1 a2 a3 a4 a5:Nat):RunOk w (ve w.params (fdY w.params) F dv dress dt lad ts ln lv [h0,h1,h2,h3,h4,h5,h6,h7,h8,h9,h10,h11,h12,h13,h14,h15]) 6 1081 [a0,a1,a2,a3,a4,a5] [] vE [oF,(0, .int q 0),(0, .int 0 0),oF,(0, .int q 0),(0, .int 0 0),oF,(0, .int q 0),(0, .int 0 0),oF,(0, .int q 0),(0, .int 0 0),oF,(0, .int q 0),(0, .int 0 0),oF,(0, .int q 0),(0, .int 0 0),oF,(0, .int q 0),(0, .int 0 0),oF,(0, .int q 0),(0, .int 0 0),oF,(0, .int q 0),(0, .int 0 0),oF,(0, .int q 0),(0, .int 0 0),oF,(0, .int q 0),(0, .int 0 0),oF,(0, .int q 0),(0, .int 0 0),oF,(0, .int q 0),(0, .int 0 0),oF,(0, .int q 0),(0, .int 0 0),oF,(0, .int q 0),(0, .int 0 0),oF,(0, .int q 0),(0, .int 0 0)] [(cX 5 (λc _=>hostC 0 (qe c 0) lad ts ln (tailS 0) (qe c 2) h0) [5]),(cX 8 (λc _=>hostC 1 (qe c 0) lad ts ln (tailS 0) (qe c 2) h1) [5]),(cX 8 (λc _=>hostC 2 (qe c 0) lad ts ln (tailS 0) (qe c 2) h2) [5]),(cX 8 (λc _=>hostC 3 (qe c 0) lad ts ln (tailS 0) (qe c 2) h3) [5]),(cX 8 (λc _=>hostC 4 (qe c 0) lad ts ln (tailS 0) (qe c 2) h4) [5]),(cX 8 (λc _=>hostC 5 (qe c 0) lad ts ln (tailS 0) (qe c 2) h5) [5]),(cX 8 (λc _=>hostC 6 (qe c 0) lad ts ln (tailS 0) (qe c 2) h6) [5]),(cX 8 (λc _=>hostC 7 (qe c 0) lad ts ln (tailS 0) (qe c 2) h7) [5]),(cX 8 (λc _=>hostC 8 (qe c 0) lad ts ln (tailS 0) (qe c 2) h8) [5]),(cX 8 (λc _=>hostC 9 (qe c 0) lad ts ln (tailS 0) (qe c 2) h9) [5]),(cX 8 (λc _=>hostC 10 (qe c 0) lad ts ln (tailS 0) (qe c 2) h10) [5]),(cX 8 (λc _=>hostC 11 (qe c 0) lad ts ln (tailS 0) (qe c 2) h11) [5]),(cX 8 (λc _=>hostC 12 (qe c 0) lad ts ln (tailS 0) (qe c 2) h12) [5]),(cX 8 (λc _=>hostC 13 (qe c 0) lad ts ln (tailS 0) (qe c 2) h13) [5]),(cX 8 (λc _=>hostC 14 (qe c 0) lad ts ln (tailS 0) (qe c 2) h14) [5]),(cX 8 (λc _=>hostC 15 (qe c 0) lad ts ln (tailS 0) (qe c 2) h15) [5])] (λa N t0 gN=>hostsT q 0 dress (a.c 14 1+6) (a.c 14 1+8)++(hostsT q 0 dress (a.c 13 1+6) (a.c 13 1+8)++(hostsT q 0 dress (a.c 12 1+6) (a.c 12 1+8)++(hostsT q 0 dress (a.c 11 1+6) (a.c 11 1+8)++(hostsT q 0 dress (a.c 10 1+6) (a.c 10 1+8)++(hostsT q 0 dress (a.c 9 1+6) (a.c 9 1+8)++(hostsT q 0 dress (a.c 8 1+6) (a.c 8 1+8)++(hostsT q 0 dress (a.c 7 1+6) (a.c 7 1+8)++(hostsT q 0 dress (a.c 6 1+6) (a.c 6 1+8)++(hostsT q 0 dress (a.c 5 1+6) (a.c 5 1+8)++(hostsT q 0 dress (a.c 4 1+6) (a.c 4 1+8)++(hostsT q 0 dress (a.c 3 1+6) (a.c 3 1+8)++(hostsT q 0 dress (a.c 2 1+6) (a.c 2 1+8)++(hostsT q 0 dress (a.c 1 1+6) (a.c 1 1+8)++(hostsT q 0 dress (a.c 0 1+6) (a.c 0 1+8)++(hostsT q 0 dress (t0+6) (t0+8))))))))))))))))) (λa N t0 gN=>[t0+1,a.c 14 1+0,0,0,0,0,0,0,0,0,0,0,0,0,0,0,0,a.c 0 3,a.c 1 3,a.c 2 3,a.c 3 3,a.c 4 3,a.c 5 3,a.c 6 3,a.c 7 3,a.c 8 3,a.c 9 3,a.c 10 3,a.c 11 3,a.c 12 3,a.c 13 3,a.c 14 3,a.c 15 3]):=λN t0 gN a x' y' z'=>by
 kernel_rfl
theorem qcF {F dv:Nat} {dress:Int} {dt:U1} {lad:List Int} {ts:List U1} {ln lv:Nat} {h0 h1 h2 h3 h4 h5 h6 h7 h8 h9 h10 h11 h12 h13 h14 h15:U2} {q:Int} (hq:F6 dress 3=q) (hx:E9 q 3=0) (H0:∀t t2,VC w 1 (hostC 0 t lad ts ln (tailS 0) t2 h0)) (H1:∀t t2,VC w 1 (hostC 1 t lad ts ln (tailS 0) t2 h1)) (H2:∀t t2,VC w 1 (hostC 2 t lad ts ln (tailS 0) t2 h2)) (H3:∀t t2,VC w 1 (hostC 3 t lad ts ln (tailS 0) t2 h3)) (H4:∀t t2,VC w 1 (hostC 4 t lad ts ln (tailS 0) t2 h4)) (H5:∀t t2,VC w 1 (hostC 5 t lad ts ln (tailS 0) t2 h5)) (H6:∀t t2,VC w 1 (hostC 6 t lad ts ln (tailS 0) t2 h6)) (H7:∀t t2,VC w 1 (hostC 7 t lad ts ln (tailS 0) t2 h7)) (H8:∀t t2,VC w 1 (hostC 8 t lad ts ln (tailS 0) t2 h8)) (H9:∀t t2,VC w 1 (hostC 9 t lad ts ln (tailS 0) t2 h9)) (H10:∀t t2,VC w 1 (hostC 10 t lad ts ln (tailS 0) t2 h10)) (H11:∀t t2,VC w 1 (hostC 11 t lad ts ln (tailS 0) t2 h11)) (H12:∀t t2,VC w 1 (hostC 12 t lad ts ln (tailS 0) t2 h12)) (H13:∀t t2,VC w 1 (hostC 13 t lad ts ln (tailS 0) t2 h13)) (H14:∀t t2,VC w 1 (hostC 14 t lad ts ln (tailS 0) t2 h14)) (H15:∀t t2,VC w 1 (hostC 15 t lad ts ln (tailS 0) t2 h15)):VC w 2 (ve w.params (fdY w.params) F dv dress dt lad ts ln lv [h0,h1,h2,h3,h4,h5,h6,h7,h8,h9,h10,h11,h12,h13,h14,h15]):=by
 have key:∀(t u:U1),∀p∈hostsT q 0 dress t u,p.1=p.2:=by
  intro t u p hp
  simp only [hostsT,E2,F5,or_false] at hp
  rcases hp with rfl | rfl | rfl
  ·show Value.int _ _=Value.int _ _
   rw [hx]
  ·show Value.int _ _=Value.int _ _
   rw [hq]
  ·exact vb (PyProof.noPylong_small (by decide))
 refine qu 6 λads hl hok => ?_
 obtain ⟨a0,a1,a2,a3,a4,a5,rfl⟩:=qfk hl
 refine (C2 (qnx F dv dress dt lad ts ln lv h0 h1 h2 h3 h4 h5 h6 h7 h8 h9 h10 h11 h12 h13 h14 h15 q a0 a1 a2 a3 a4 a5) (qa (λ_ _=>H0 _ _) (qa (λ_ _=>H1 _ _) (qa (λ_ _=>H2 _ _) (qa (λ_ _=>H3 _ _) (qa (λ_ _=>H4 _ _) (qa (λ_ _=>H5 _ _) (qa (λ_ _=>H6 _ _) (qa (λ_ _=>H7 _ _) (qa (λ_ _=>H8 _ _) (qa (λ_ _=>H9 _ _) (qa (λ_ _=>H10 _ _) (qa (λ_ _=>H11 _ _) (qa (λ_ _=>H12 _ _) (qa (λ_ _=>H13 _ _) (qa (λ_ _=>H14 _ _) (qa (λ_ _=>H15 _ _) (B0))))))))))))))))) (λa N t0 gN p hp => ?_))
 simp only [I1] at hp
 repeat' (first | exact key _ _ p hp | rcases hp with hp | hp)
theorem qnw (F dv:Nat) (dress:Int) (dt:U1) (lad:List Int) (ts:List U1) (ln lv:Nat) (h0 h1 h2 h3 h4 h5 h6 h7 h8 h9 h10 h11 h12 h13 h14 h15:U2) (q:Int) (a0 a1 a2 a3 a4 a5:Nat):RunOk w (ve w.params (fdY w.params) F dv dress dt lad ts ln lv [h0,h1,h2,h3,h4,h5,h6,h7,h8,h9,h10,h11,h12,h13,h14,h15]) 6 1081 [a0,a1,a2,a3,a4,a5] [] vE [oF,(0, .int q 0),(0, .int 1 0),oF,(0, .int q 0),(0, .int 1 0),oF,(0, .int q 0),(0, .int 1 0),oF,(0, .int q 0),(0, .int 1 0),oF,(0, .int q 0),(0, .int 1 0),oF,(0, .int q 0),(0, .int 1 0),oF,(0, .int q 0),(0, .int 1 0),oF,(0, .int q 0),(0, .int 1 0),oF,(0, .int q 0),(0, .int 1 0),oF,(0, .int q 0),(0, .int 1 0),oF,(0, .int q 0),(0, .int 1 0),oF,(0, .int q 0),(0, .int 1 0),oF,(0, .int q 0),(0, .int 1 0),oF,(0, .int q 0),(0, .int 1 0),oF,(0, .int q 0),(0, .int 1 0),oF,(0, .int q 0),(0, .int 1 0)] [(cX 5 (λc _=>hostC 0 (qe c 0) lad ts ln (tailS 1) (qe c 2) h0) [5]),(cX 8 (λc _=>hostC 1 (qe c 0) lad ts ln (tailS 1) (qe c 2) h1) [5]),(cX 8 (λc _=>hostC 2 (qe c 0) lad ts ln (tailS 1) (qe c 2) h2) [5]),(cX 8 (λc _=>hostC 3 (qe c 0) lad ts ln (tailS 1) (qe c 2) h3) [5]),(cX 8 (λc _=>hostC 4 (qe c 0) lad ts ln (tailS 1) (qe c 2) h4) [5]),(cX 8 (λc _=>hostC 5 (qe c 0) lad ts ln (tailS 1) (qe c 2) h5) [5]),(cX 8 (λc _=>hostC 6 (qe c 0) lad ts ln (tailS 1) (qe c 2) h6) [5]),(cX 8 (λc _=>hostC 7 (qe c 0) lad ts ln (tailS 1) (qe c 2) h7) [5]),(cX 8 (λc _=>hostC 8 (qe c 0) lad ts ln (tailS 1) (qe c 2) h8) [5]),(cX 8 (λc _=>hostC 9 (qe c 0) lad ts ln (tailS 1) (qe c 2) h9) [5]),(cX 8 (λc _=>hostC 10 (qe c 0) lad ts ln (tailS 1) (qe c 2) h10) [5]),(cX 8 (λc _=>hostC 11 (qe c 0) lad ts ln (tailS 1) (qe c 2) h11) [5]),(cX 8 (λc _=>hostC 12 (qe c 0) lad ts ln (tailS 1) (qe c 2) h12) [5]),(cX 8 (λc _=>hostC 13 (qe c 0) lad ts ln (tailS 1) (qe c 2) h13) [5]),(cX 8 (λc _=>hostC 14 (qe c 0) lad ts ln (tailS 1) (qe c 2) h14) [5]),(cX 8 (λc _=>hostC 15 (qe c 0) lad ts ln (tailS 1) (qe c 2) h15) [5])] (λa N t0 gN=>hostsT q 1 dress (a.c 14 1+6) (a.c 14 1+8)++(hostsT q 1 dress (a.c 13 1+6) (a.c 13 1+8)++(hostsT q 1 dress (a.c 12 1+6) (a.c 12 1+8)++(hostsT q 1 dress (a.c 11 1+6) (a.c 11 1+8)++(hostsT q 1 dress (a.c 10 1+6) (a.c 10 1+8)++(hostsT q 1 dress (a.c 9 1+6) (a.c 9 1+8)++(hostsT q 1 dress (a.c 8 1+6) (a.c 8 1+8)++(hostsT q 1 dress (a.c 7 1+6) (a.c 7 1+8)++(hostsT q 1 dress (a.c 6 1+6) (a.c 6 1+8)++(hostsT q 1 dress (a.c 5 1+6) (a.c 5 1+8)++(hostsT q 1 dress (a.c 4 1+6) (a.c 4 1+8)++(hostsT q 1 dress (a.c 3 1+6) (a.c 3 1+8)++(hostsT q 1 dress (a.c 2 1+6) (a.c 2 1+8)++(hostsT q 1 dress (a.c 1 1+6) (a.c 1 1+8)++(hostsT q 1 dress (a.c 0 1+6) (a.c 0 1+8)++(hostsT q 1 dress (t0+6) (t0+8))))))))))))))))) (λa N t0 gN=>[t0+1,a.c 14 1+0,0,0,0,0,0,0,0,0,0,0,0,0,0,0,0,a.c 0 3,a.c 1 3,a.c 2 3,a.c 3 3,a.c 4 3,a.c 5 3,a.c 6 3,a.c 7 3,a.c 8 3,a.c 9 3,a.c 10 3,a.c 11 3,a.c 12 3,a.c 13 3,a.c 14 3,a.c 15 3]):=λN t0 gN a x' y' z'=>by
 kernel_rfl
theorem qcE {F dv:Nat} {dress:Int} {dt:U1} {lad:List Int} {ts:List U1} {ln lv:Nat} {h0 h1 h2 h3 h4 h5 h6 h7 h8 h9 h10 h11 h12 h13 h14 h15:U2} {q:Int} (hq:F6 dress 3=q) (hx:E9 q 3=1) (H0:∀t t2,VC w 1 (hostC 0 t lad ts ln (tailS 1) t2 h0)) (H1:∀t t2,VC w 1 (hostC 1 t lad ts ln (tailS 1) t2 h1)) (H2:∀t t2,VC w 1 (hostC 2 t lad ts ln (tailS 1) t2 h2)) (H3:∀t t2,VC w 1 (hostC 3 t lad ts ln (tailS 1) t2 h3)) (H4:∀t t2,VC w 1 (hostC 4 t lad ts ln (tailS 1) t2 h4)) (H5:∀t t2,VC w 1 (hostC 5 t lad ts ln (tailS 1) t2 h5)) (H6:∀t t2,VC w 1 (hostC 6 t lad ts ln (tailS 1) t2 h6)) (H7:∀t t2,VC w 1 (hostC 7 t lad ts ln (tailS 1) t2 h7)) (H8:∀t t2,VC w 1 (hostC 8 t lad ts ln (tailS 1) t2 h8)) (H9:∀t t2,VC w 1 (hostC 9 t lad ts ln (tailS 1) t2 h9)) (H10:∀t t2,VC w 1 (hostC 10 t lad ts ln (tailS 1) t2 h10)) (H11:∀t t2,VC w 1 (hostC 11 t lad ts ln (tailS 1) t2 h11)) (H12:∀t t2,VC w 1 (hostC 12 t lad ts ln (tailS 1) t2 h12)) (H13:∀t t2,VC w 1 (hostC 13 t lad ts ln (tailS 1) t2 h13)) (H14:∀t t2,VC w 1 (hostC 14 t lad ts ln (tailS 1) t2 h14)) (H15:∀t t2,VC w 1 (hostC 15 t lad ts ln (tailS 1) t2 h15)):VC w 2 (ve w.params (fdY w.params) F dv dress dt lad ts ln lv [h0,h1,h2,h3,h4,h5,h6,h7,h8,h9,h10,h11,h12,h13,h14,h15]):=by
 have key:∀(t u:U1),∀p∈hostsT q 1 dress t u,p.1=p.2:=by
  intro t u p hp
  simp only [hostsT,E2,F5,or_false] at hp
  rcases hp with rfl | rfl | rfl
  ·show Value.int _ _=Value.int _ _
   rw [hx]
  ·show Value.int _ _=Value.int _ _
   rw [hq]
  ·exact vb (PyProof.noPylong_small (by decide))
 refine qu 6 λads hl hok => ?_
 obtain ⟨a0,a1,a2,a3,a4,a5,rfl⟩:=qfk hl
 refine (C2 (qnw F dv dress dt lad ts ln lv h0 h1 h2 h3 h4 h5 h6 h7 h8 h9 h10 h11 h12 h13 h14 h15 q a0 a1 a2 a3 a4 a5) (qa (λ_ _=>H0 _ _) (qa (λ_ _=>H1 _ _) (qa (λ_ _=>H2 _ _) (qa (λ_ _=>H3 _ _) (qa (λ_ _=>H4 _ _) (qa (λ_ _=>H5 _ _) (qa (λ_ _=>H6 _ _) (qa (λ_ _=>H7 _ _) (qa (λ_ _=>H8 _ _) (qa (λ_ _=>H9 _ _) (qa (λ_ _=>H10 _ _) (qa (λ_ _=>H11 _ _) (qa (λ_ _=>H12 _ _) (qa (λ_ _=>H13 _ _) (qa (λ_ _=>H14 _ _) (qa (λ_ _=>H15 _ _) (B0))))))))))))))))) (λa N t0 gN p hp => ?_))
 simp only [I1] at hp
 repeat' (first | exact key _ _ p hp | rcases hp with hp | hp)
theorem qnv (F dv:Nat) (dress:Int) (dt:U1) (lad:List Int) (ts:List U1) (ln lv:Nat) (h0 h1 h2 h3 h4 h5 h6 h7 h8 h9 h10 h11 h12 h13 h14 h15:U2) (q:Int) (a0 a1 a2 a3 a4 a5:Nat):RunOk w (ve w.params (fdY w.params) F dv dress dt lad ts ln lv [h0,h1,h2,h3,h4,h5,h6,h7,h8,h9,h10,h11,h12,h13,h14,h15]) 6 1081 [a0,a1,a2,a3,a4,a5] [] vE [oF,(0, .int q 0),(0, .int 2 0),oF,(0, .int q 0),(0, .int 2 0),oF,(0, .int q 0),(0, .int 2 0),oF,(0, .int q 0),(0, .int 2 0),oF,(0, .int q 0),(0, .int 2 0),oF,(0, .int q 0),(0, .int 2 0),oF,(0, .int q 0),(0, .int 2 0),oF,(0, .int q 0),(0, .int 2 0),oF,(0, .int q 0),(0, .int 2 0),oF,(0, .int q 0),(0, .int 2 0),oF,(0, .int q 0),(0, .int 2 0),oF,(0, .int q 0),(0, .int 2 0),oF,(0, .int q 0),(0, .int 2 0),oF,(0, .int q 0),(0, .int 2 0),oF,(0, .int q 0),(0, .int 2 0),oF,(0, .int q 0),(0, .int 2 0)] [(cX 5 (λc _=>hostC 0 (qe c 0) lad ts ln (tailS 2) (qe c 2) h0) [5]),(cX 8 (λc _=>hostC 1 (qe c 0) lad ts ln (tailS 2) (qe c 2) h1) [5]),(cX 8 (λc _=>hostC 2 (qe c 0) lad ts ln (tailS 2) (qe c 2) h2) [5]),(cX 8 (λc _=>hostC 3 (qe c 0) lad ts ln (tailS 2) (qe c 2) h3) [5]),(cX 8 (λc _=>hostC 4 (qe c 0) lad ts ln (tailS 2) (qe c 2) h4) [5]),(cX 8 (λc _=>hostC 5 (qe c 0) lad ts ln (tailS 2) (qe c 2) h5) [5]),(cX 8 (λc _=>hostC 6 (qe c 0) lad ts ln (tailS 2) (qe c 2) h6) [5]),(cX 8 (λc _=>hostC 7 (qe c 0) lad ts ln (tailS 2) (qe c 2) h7) [5]),(cX 8 (λc _=>hostC 8 (qe c 0) lad ts ln (tailS 2) (qe c 2) h8) [5]),(cX 8 (λc _=>hostC 9 (qe c 0) lad ts ln (tailS 2) (qe c 2) h9) [5]),(cX 8 (λc _=>hostC 10 (qe c 0) lad ts ln (tailS 2) (qe c 2) h10) [5]),(cX 8 (λc _=>hostC 11 (qe c 0) lad ts ln (tailS 2) (qe c 2) h11) [5]),(cX 8 (λc _=>hostC 12 (qe c 0) lad ts ln (tailS 2) (qe c 2) h12) [5]),(cX 8 (λc _=>hostC 13 (qe c 0) lad ts ln (tailS 2) (qe c 2) h13) [5]),(cX 8 (λc _=>hostC 14 (qe c 0) lad ts ln (tailS 2) (qe c 2) h14) [5]),(cX 8 (λc _=>hostC 15 (qe c 0) lad ts ln (tailS 2) (qe c 2) h15) [5])] (λa N t0 gN=>hostsT q 2 dress (a.c 14 1+6) (a.c 14 1+8)++(hostsT q 2 dress (a.c 13 1+6) (a.c 13 1+8)++(hostsT q 2 dress (a.c 12 1+6) (a.c 12 1+8)++(hostsT q 2 dress (a.c 11 1+6) (a.c 11 1+8)++(hostsT q 2 dress (a.c 10 1+6) (a.c 10 1+8)++(hostsT q 2 dress (a.c 9 1+6) (a.c 9 1+8)++(hostsT q 2 dress (a.c 8 1+6) (a.c 8 1+8)++(hostsT q 2 dress (a.c 7 1+6) (a.c 7 1+8)++(hostsT q 2 dress (a.c 6 1+6) (a.c 6 1+8)++(hostsT q 2 dress (a.c 5 1+6) (a.c 5 1+8)++(hostsT q 2 dress (a.c 4 1+6) (a.c 4 1+8)++(hostsT q 2 dress (a.c 3 1+6) (a.c 3 1+8)++(hostsT q 2 dress (a.c 2 1+6) (a.c 2 1+8)++(hostsT q 2 dress (a.c 1 1+6) (a.c 1 1+8)++(hostsT q 2 dress (a.c 0 1+6) (a.c 0 1+8)++(hostsT q 2 dress (t0+6) (t0+8))))))))))))))))) (λa N t0 gN=>[t0+1,a.c 14 1+0,0,0,0,0,0,0,0,0,0,0,0,0,0,0,0,a.c 0 3,a.c 1 3,a.c 2 3,a.c 3 3,a.c 4 3,a.c 5 3,a.c 6 3,a.c 7 3,a.c 8 3,a.c 9 3,a.c 10 3,a.c 11 3,a.c 12 3,a.c 13 3,a.c 14 3,a.c 15 3]):=λN t0 gN a x' y' z'=>by
 kernel_rfl
theorem qcD {F dv:Nat} {dress:Int} {dt:U1} {lad:List Int} {ts:List U1} {ln lv:Nat} {h0 h1 h2 h3 h4 h5 h6 h7 h8 h9 h10 h11 h12 h13 h14 h15:U2} {q:Int} (hq:F6 dress 3=q) (hx:E9 q 3=2) (H0:∀t t2,VC w 1 (hostC 0 t lad ts ln (tailS 2) t2 h0)) (H1:∀t t2,VC w 1 (hostC 1 t lad ts ln (tailS 2) t2 h1)) (H2:∀t t2,VC w 1 (hostC 2 t lad ts ln (tailS 2) t2 h2)) (H3:∀t t2,VC w 1 (hostC 3 t lad ts ln (tailS 2) t2 h3)) (H4:∀t t2,VC w 1 (hostC 4 t lad ts ln (tailS 2) t2 h4)) (H5:∀t t2,VC w 1 (hostC 5 t lad ts ln (tailS 2) t2 h5)) (H6:∀t t2,VC w 1 (hostC 6 t lad ts ln (tailS 2) t2 h6)) (H7:∀t t2,VC w 1 (hostC 7 t lad ts ln (tailS 2) t2 h7)) (H8:∀t t2,VC w 1 (hostC 8 t lad ts ln (tailS 2) t2 h8)) (H9:∀t t2,VC w 1 (hostC 9 t lad ts ln (tailS 2) t2 h9)) (H10:∀t t2,VC w 1 (hostC 10 t lad ts ln (tailS 2) t2 h10)) (H11:∀t t2,VC w 1 (hostC 11 t lad ts ln (tailS 2) t2 h11)) (H12:∀t t2,VC w 1 (hostC 12 t lad ts ln (tailS 2) t2 h12)) (H13:∀t t2,VC w 1 (hostC 13 t lad ts ln (tailS 2) t2 h13)) (H14:∀t t2,VC w 1 (hostC 14 t lad ts ln (tailS 2) t2 h14)) (H15:∀t t2,VC w 1 (hostC 15 t lad ts ln (tailS 2) t2 h15)):VC w 2 (ve w.params (fdY w.params) F dv dress dt lad ts ln lv [h0,h1,h2,h3,h4,h5,h6,h7,h8,h9,h10,h11,h12,h13,h14,h15]):=by
 have key:∀(t u:U1),∀p∈hostsT q 2 dress t u,p.1=p.2:=by
  intro t u p hp
  simp only [hostsT,E2,F5,or_false] at hp
  rcases hp with rfl | rfl | rfl
  ·show Value.int _ _=Value.int _ _
   rw [hx]
  ·show Value.int _ _=Value.int _ _
   rw [hq]
  ·exact vb (PyProof.noPylong_small (by decide))
 refine qu 6 λads hl hok => ?_
 obtain ⟨a0,a1,a2,a3,a4,a5,rfl⟩:=qfk hl
 refine (C2 (qnv F dv dress dt lad ts ln lv h0 h1 h2 h3 h4 h5 h6 h7 h8 h9 h10 h11 h12 h13 h14 h15 q a0 a1 a2 a3 a4 a5) (qa (λ_ _=>H0 _ _) (qa (λ_ _=>H1 _ _) (qa (λ_ _=>H2 _ _) (qa (λ_ _=>H3 _ _) (qa (λ_ _=>H4 _ _) (qa (λ_ _=>H5 _ _) (qa (λ_ _=>H6 _ _) (qa (λ_ _=>H7 _ _) (qa (λ_ _=>H8 _ _) (qa (λ_ _=>H9 _ _) (qa (λ_ _=>H10 _ _) (qa (λ_ _=>H11 _ _) (qa (λ_ _=>H12 _ _) (qa (λ_ _=>H13 _ _) (qa (λ_ _=>H14 _ _) (qa (λ_ _=>H15 _ _) (B0))))))))))))))))) (λa N t0 gN p hp => ?_))
 simp only [I1] at hp
 repeat' (first | exact key _ _ p hp | rcases hp with hp | hp)
noncomputable def fdB (p:T4) (r:Bool):T5:=qqY ((Mine.h1.ktop_579 p).get (biA r))
noncomputable def bTk (c:Code):U1:=match uE c 0 with
 | .bytes _ t=>t
 | _=>0
noncomputable def vF (md v:Int) (c:Code):Ctr:=zW "bytes.__getitem__" ⟨[.bytes zz (bTk c), .int md (qe c 1)],[]⟩ λk => .int v k
theorem qry (ka kx kl kh kk la:U1) (x:Int) (xt:U1) (lo:Int) (lt:U1) (hi:Int) (ht km:U1) (mid:Int) (mt:U1) (md v:Int) (a0:Nat):RunOk w (yp w.params (fdB w.params false) false true ⟨ka,kx,kl,kh,kk,la,x,xt⟩ lo lt hi ht false km mid mt md) 1 63 [a0] [] [1,1,1,1,1,1,1,1,1,1,1,1] [oT,(1, .bool false),(0, .int md 0),oT] [(cC 1 (vF md v) []),⟨0,none,[]⟩] (λ_ _ t0 _=>[(.bool (decide (v<x)), .bool true),(.int (F6 (lo+hi) 2) (t0+2), .int md (t0+2)),(.bool (E4 (lo+hi) 2), .bool false),(.bool (decide (lo<hi)), .bool true)]) (λa N t0 gN=>[a.c 0 1+1,t0+3,t0+2]):=λN t0 gN a x' y' z'=>by
 kernel_rfl
theorem qrx (ka kx kl kh kk la:U1) (x:Int) (xt:U1) (lo:Int) (lt:U1) (hi:Int) (ht km:U1) (mid:Int) (mt:U1) (md v:Int) (a0:Nat):RunOk w (yp w.params (fdB w.params false) false true ⟨ka,kx,kl,kh,kk,la,x,xt⟩ lo lt hi ht true km mid mt md) 1 63 [a0] [] [1,1,1,1,1,1,1,1,1,1,1,1] [oT,(1, .bool false),(0, .int md 0),oT] [(cC 1 (vF md v) []),⟨0,none,[]⟩] (λ_ _ t0 _=>[(.bool (decide (v<x)), .bool true),(.int (F6 (lo+hi) 2) (t0+2), .int md (t0+2)),(.bool (E4 (lo+hi) 2), .bool false),(.bool (decide (lo<hi)), .bool true)]) (λa N t0 gN=>[a.c 0 1+1,km,t0+2]):=λN t0 gN a x' y' z'=>by
 kernel_rfl
theorem qrA (ka kx kl kh kk la:U1) (x:Int) (xt:U1) (lo:Int) (lt:U1) (hi:Int) (ht km:U1) (mid:Int) (mt:U1) (md v:Int) (a0:Nat):RunOk w (yp w.params (fdB w.params false) false false ⟨ka,kx,kl,kh,kk,la,x,xt⟩ lo lt hi ht false km mid mt md) 1 59 [a0] [] [1,1,1,1,1,1,1,1,1,1,1,1] [oT,(1, .bool false),(0, .int md 0),oF] [(cC 1 (vF md v) []),⟨0,none,[]⟩] (λ_ _ t0 _=>[(.bool (decide (v<x)), .bool false),(.int (F6 (lo+hi) 2) (t0+2), .int md (t0+2)),(.bool (E4 (lo+hi) 2), .bool false),(.bool (decide (lo<hi)), .bool true)]) (λa N t0 gN=>[t0+2,t0+3,t0+2]):=λN t0 gN a x' y' z'=>by
 kernel_rfl
theorem qrz (ka kx kl kh kk la:U1) (x:Int) (xt:U1) (lo:Int) (lt:U1) (hi:Int) (ht km:U1) (mid:Int) (mt:U1) (md v:Int) (a0:Nat):RunOk w (yp w.params (fdB w.params false) false false ⟨ka,kx,kl,kh,kk,la,x,xt⟩ lo lt hi ht true km mid mt md) 1 59 [a0] [] [1,1,1,1,1,1,1,1,1,1,1,1] [oT,(1, .bool false),(0, .int md 0),oF] [(cC 1 (vF md v) []),⟨0,none,[]⟩] (λ_ _ t0 _=>[(.bool (decide (v<x)), .bool false),(.int (F6 (lo+hi) 2) (t0+2), .int md (t0+2)),(.bool (E4 (lo+hi) 2), .bool false),(.bool (decide (lo<hi)), .bool true)]) (λa N t0 gN=>[t0+2,km,t0+2]):=λN t0 gN a x' y' z'=>by
 kernel_rfl
theorem qru (ka kx kl kh kk la:U1) (x:Int) (xt:U1) (lo:Int) (lt:U1) (hi:Int) (ht km:U1) (mid:Int) (mt:U1) (md v:Int) (a0:Nat):RunOk w (yp w.params (fdB w.params true) true true ⟨ka,kx,kl,kh,kk,la,x,xt⟩ lo lt hi ht false km mid mt md) 1 63 [a0] [] [1,1,1,1,1,1,1,1,1,1,1,1] [oT,(1, .bool false),(0, .int md 0),oF] [(cC 1 (vF md v) []),⟨0,none,[]⟩] (λ_ _ t0 _=>[(.bool (decide (x<v)), .bool false),(.int (F6 (lo+hi) 2) (t0+2), .int md (t0+2)),(.bool (E4 (lo+hi) 2), .bool false),(.bool (decide (lo<hi)), .bool true)]) (λa N t0 gN=>[a.c 0 1+1,t0+3,t0+2]):=λN t0 gN a x' y' z'=>by
 kernel_rfl
theorem qrt (ka kx kl kh kk la:U1) (x:Int) (xt:U1) (lo:Int) (lt:U1) (hi:Int) (ht km:U1) (mid:Int) (mt:U1) (md v:Int) (a0:Nat):RunOk w (yp w.params (fdB w.params true) true true ⟨ka,kx,kl,kh,kk,la,x,xt⟩ lo lt hi ht true km mid mt md) 1 63 [a0] [] [1,1,1,1,1,1,1,1,1,1,1,1] [oT,(1, .bool false),(0, .int md 0),oF] [(cC 1 (vF md v) []),⟨0,none,[]⟩] (λ_ _ t0 _=>[(.bool (decide (x<v)), .bool false),(.int (F6 (lo+hi) 2) (t0+2), .int md (t0+2)),(.bool (E4 (lo+hi) 2), .bool false),(.bool (decide (lo<hi)), .bool true)]) (λa N t0 gN=>[a.c 0 1+1,km,t0+2]):=λN t0 gN a x' y' z'=>by
 kernel_rfl
theorem qrw (ka kx kl kh kk la:U1) (x:Int) (xt:U1) (lo:Int) (lt:U1) (hi:Int) (ht km:U1) (mid:Int) (mt:U1) (md v:Int) (a0:Nat):RunOk w (yp w.params (fdB w.params true) true false ⟨ka,kx,kl,kh,kk,la,x,xt⟩ lo lt hi ht false km mid mt md) 1 59 [a0] [] [1,1,1,1,1,1,1,1,1,1,1,1] [oT,(1, .bool false),(0, .int md 0),oT] [(cC 1 (vF md v) []),⟨0,none,[]⟩] (λ_ _ t0 _=>[(.bool (decide (x<v)), .bool true),(.int (F6 (lo+hi) 2) (t0+2), .int md (t0+2)),(.bool (E4 (lo+hi) 2), .bool false),(.bool (decide (lo<hi)), .bool true)]) (λa N t0 gN=>[t0+2,t0+3,t0+2]):=λN t0 gN a x' y' z'=>by
 kernel_rfl
theorem qrv (ka kx kl kh kk la:U1) (x:Int) (xt:U1) (lo:Int) (lt:U1) (hi:Int) (ht km:U1) (mid:Int) (mt:U1) (md v:Int) (a0:Nat):RunOk w (yp w.params (fdB w.params true) true false ⟨ka,kx,kl,kh,kk,la,x,xt⟩ lo lt hi ht true km mid mt md) 1 59 [a0] [] [1,1,1,1,1,1,1,1,1,1,1,1] [oT,(1, .bool false),(0, .int md 0),oT] [(cC 1 (vF md v) []),⟨0,none,[]⟩] (λ_ _ t0 _=>[(.bool (decide (x<v)), .bool true),(.int (F6 (lo+hi) 2) (t0+2), .int md (t0+2)),(.bool (E4 (lo+hi) 2), .bool false),(.bool (decide (lo<hi)), .bool true)]) (λa N t0 gN=>[t0+2,km,t0+2]):=λN t0 gN a x' y' z'=>by
 kernel_rfl
theorem qtt (ka kx kl kh kk la:U1) (x:Int) (xt:U1) (lo:Int) (lt:U1) (hi:Int) (ht:U1) (late:Bool) (km:U1) (mid:Int) (mt:U1) (a0:Nat):RunOk w (qcn w.params (fdB w.params false) false ⟨ka,kx,kl,kh,kk,la,x,xt⟩ lo lt hi ht late km mid mt) 1 17 [a0] [] [1,1] [oF] [] (λ_ _ t0 _=>[(.bool (decide (lo<hi)), .bool false)]) (λa N t0 gN=>[]):=λN t0 gN a x' y' z'=>by
 cases late <;> kernel_rfl
theorem qts (ka kx kl kh kk la:U1) (x:Int) (xt:U1) (lo:Int) (lt:U1) (hi:Int) (ht:U1) (late:Bool) (km:U1) (mid:Int) (mt:U1) (a0:Nat):RunOk w (qcn w.params (fdB w.params true) true ⟨ka,kx,kl,kh,kk,la,x,xt⟩ lo lt hi ht late km mid mt) 1 17 [a0] [] [1,1] [oF] [] (λ_ _ t0 _=>[(.bool (decide (lo<hi)), .bool false)]) (λa N t0 gN=>[]):=λN t0 gN a x' y' z'=>by
 cases late <;> kernel_rfl
theorem qjo:plainId "bytes.__getitem__"=true:=by decide +kernel
theorem qrr:∀i:Fin 16,Builtin.Bytes.fitsIndex (i.val:Int)=true∧((seqIndex? (i.val:Int) zz.size).bind (zz[·]?)).map (·.toNat)=some (65+i.val):=by decide +kernel
theorem qsE {lev:Nat} {b:Array UInt8} {i:Int} {t u:U1} {c:UInt8} (h1:Builtin.Bytes.fitsIndex i=true) (h:(seqIndex? i b.size).bind (b[·]?)=some c):VC w lev (zW "bytes.__getitem__" ⟨[.bytes b t, .int i u],[]⟩ λk => .int (c.toNat:Int) k) :=
 zO qjo PySem.W.FB.entry_bytes_getitem (gives_bytes_getitem b i t u c h1 h) λs Q q=>q s.toks (s.toks+1)
theorem qdg {lev:Nat} {md v:Int} {t u:U1} (h0:0≤md) (h1:md<16) (hv:v=65+md):VC w lev (zW "bytes.__getitem__" ⟨[.bytes zz t, .int md u],[]⟩ λk => .int v k):=by
 obtain ⟨i,rfl⟩:=J5 h0
 have hi:i<16:=by lia
 have b:=qrr ⟨i,hi⟩
 obtain ⟨b1,b2⟩:=b
 obtain ⟨c,e,b3⟩:=Option.map_eq_some_iff.mp b2
 have b3:c.toNat=65+i:=b3
 have z:=qsE (w:=w) (lev:=lev) (t:=t) (u:=u) b1 e
 rw [b3] at z
 subst hv
 exact z
noncomputable def zS (r:Bool) (x:Int):Int:=match r with
 | true=>x-64
 | false=>x-65
noncomputable def ze (r:Bool) (x lo hi:Int):Int:=if zS r x≤lo then lo else if hi≤zS r x then hi else zS r x
theorem qsH {up late:Bool} {m:Mine.BT} {lo:Int} {lt:U1} {hi:Int} {ht km:U1} {mid:Int} {mt:U1} {md:Int} (h0:0≤lo) (h1:lo<hi) (h2:hi≤16) (hm:(lo+hi).fdiv 2=md) (hu:decide (md<m.x-65)=up):VC w 1 (yp w.params (fdB w.params false) false up m lo lt hi ht late km mid mt md):=by
 obtain ⟨ka,kx,kl,kh,kk,la,x,xt⟩:=m
 have hf:(lo+hi).fdiv 2=(lo+hi)/2:=by rw [J7 _ (by decide)]
 have m0:0≤md:=by lia
 have m1:md<16:=by lia
 have hu:decide (md<x-65)=up:=hu
 refine qu 1 λads hl hok => ?_
 obtain ⟨a0,rfl⟩:=qbA hl
 have key:∀(cmp:Bool) (c:Bool) (t0:Nat),c=cmp→∀p∈[(Value.bool c,Value.bool cmp),(.int (F6 (lo+hi) 2) (t0+2), .int md (t0+2)),(.bool (E4 (lo+hi) 2), .bool false),(.bool (decide (lo<hi)), .bool true)],p.1=p.2:=by
  intro cmp c t0 hc p hp
  simp only [E2,F5,or_false] at hp
  rcases hp with rfl | rfl | rfl | rfl
  ·exact vb hc
  ·show Value.int _ _=Value.int _ _
   rw [hm]
  ·exact vb (PyProof.noPylong_small (by decide))
  ·exact vb (decide_eq_true h1)
 have av:AllValid prog w (ktOf w.params) 0 [(cC 1 (vF md (65+md)) []),⟨0,none,[]⟩]:=qa (λ_ _=>qdg m0 m1 rfl) (qK B0)
 by_cases hx:md<x-65
 ·have e:up=true:=by rw [←hu];exact decide_eq_true hx
  subst e
  cases late
  ·exact (C2 (qry ka kx kl kh kk la x xt lo lt hi ht km mid mt md (65+md) a0) av (λ_ _ t0 _=>key _ _ t0 (decide_eq_true (by lia))))
  ·exact (C2 (qrx ka kx kl kh kk la x xt lo lt hi ht km mid mt md (65+md) a0) av (λ_ _ t0 _=>key _ _ t0 (decide_eq_true (by lia))))
 ·have e:up=false:=by rw [←hu];exact decide_eq_false hx
  subst e
  cases late
  ·exact (C2 (qrA ka kx kl kh kk la x xt lo lt hi ht km mid mt md (65+md) a0) av (λ_ _ t0 _=>key _ _ t0 (decide_eq_false (by lia))))
  ·exact (C2 (qrz ka kx kl kh kk la x xt lo lt hi ht km mid mt md (65+md) a0) av (λ_ _ t0 _=>key _ _ t0 (decide_eq_false (by lia))))
theorem qsJ {m:Mine.BT} {lo:Int} {lt:U1} {hi:Int} {ht km:U1} {late:Bool} {mid:Int} {mt:U1} (h1:¬lo<hi):VC w 1 (qcn w.params (fdB w.params false) false m lo lt hi ht late km mid mt):=by
 obtain ⟨ka,kx,kl,kh,kk,la,x,xt⟩:=m
 refine qu 1 λads hl hok => ?_
 obtain ⟨a0,rfl⟩:=qbA hl
 refine (C2 (qtt ka kx kl kh kk la x xt lo lt hi ht late km mid mt a0) B0 (λ_ _ t0 _ p hp => ?_))
 rcases E2.mp hp with rfl | hp
 ·exact vb (decide_eq_false h1)
 ·cases hp
theorem qsG {up late:Bool} {m:Mine.BT} {lo:Int} {lt:U1} {hi:Int} {ht km:U1} {mid:Int} {mt:U1} {md:Int} (h0:0≤lo) (h1:lo<hi) (h2:hi≤16) (hm:(lo+hi).fdiv 2=md) (hu:decide (md<m.x-64)=up):VC w 1 (yp w.params (fdB w.params true) true up m lo lt hi ht late km mid mt md):=by
 obtain ⟨ka,kx,kl,kh,kk,la,x,xt⟩:=m
 have hf:(lo+hi).fdiv 2=(lo+hi)/2:=by rw [J7 _ (by decide)]
 have m0:0≤md:=by lia
 have m1:md<16:=by lia
 have hu:decide (md<x-64)=up:=hu
 refine qu 1 λads hl hok => ?_
 obtain ⟨a0,rfl⟩:=qbA hl
 have key:∀(cmp:Bool) (c:Bool) (t0:Nat),c=cmp→∀p∈[(Value.bool c,Value.bool cmp),(.int (F6 (lo+hi) 2) (t0+2), .int md (t0+2)),(.bool (E4 (lo+hi) 2), .bool false),(.bool (decide (lo<hi)), .bool true)],p.1=p.2:=by
  intro cmp c t0 hc p hp
  simp only [E2,F5,or_false] at hp
  rcases hp with rfl | rfl | rfl | rfl
  ·exact vb hc
  ·show Value.int _ _=Value.int _ _
   rw [hm]
  ·exact vb (PyProof.noPylong_small (by decide))
  ·exact vb (decide_eq_true h1)
 have av:AllValid prog w (ktOf w.params) 0 [(cC 1 (vF md (65+md)) []),⟨0,none,[]⟩]:=qa (λ_ _=>qdg m0 m1 rfl) (qK B0)
 by_cases hx:md<x-64
 ·have e:up=true:=by rw [←hu];exact decide_eq_true hx
  subst e
  cases late
  ·exact (C2 (qru ka kx kl kh kk la x xt lo lt hi ht km mid mt md (65+md) a0) av (λ_ _ t0 _=>key _ _ t0 (decide_eq_false (by lia))))
  ·exact (C2 (qrt ka kx kl kh kk la x xt lo lt hi ht km mid mt md (65+md) a0) av (λ_ _ t0 _=>key _ _ t0 (decide_eq_false (by lia))))
 ·have e:up=false:=by rw [←hu];exact decide_eq_false hx
  subst e
  cases late
  ·exact (C2 (qrw ka kx kl kh kk la x xt lo lt hi ht km mid mt md (65+md) a0) av (λ_ _ t0 _=>key _ _ t0 (decide_eq_true (by lia))))
  ·exact (C2 (qrv ka kx kl kh kk la x xt lo lt hi ht km mid mt md (65+md) a0) av (λ_ _ t0 _=>key _ _ t0 (decide_eq_true (by lia))))
theorem qsI {m:Mine.BT} {lo:Int} {lt:U1} {hi:Int} {ht km:U1} {late:Bool} {mid:Int} {mt:U1} (h1:¬lo<hi):VC w 1 (qcn w.params (fdB w.params true) true m lo lt hi ht late km mid mt):=by
 obtain ⟨ka,kx,kl,kh,kk,la,x,xt⟩:=m
 refine qu 1 λads hl hok => ?_
 obtain ⟨a0,rfl⟩:=qbA hl
 refine (C2 (qts ka kx kl kh kk la x xt lo lt hi ht late km mid mt a0) B0 (λ_ _ t0 _ p hp => ?_))
 rcases E2.mp hp with rfl | hp
 ·exact vb (decide_eq_false h1)
 ·cases hp
theorem qrs {r up late:Bool} {m:Mine.BT} {lo:Int} {lt:U1} {hi:Int} {ht km:U1} {mid:Int} {mt:U1} {md:Int} (h0:0≤lo) (h1:lo<hi) (h2:hi≤16) (hm:(lo+hi).fdiv 2=md) (hu:decide (md<zS r m.x)=up):VC w 1 (yp w.params (fdB w.params r) r up m lo lt hi ht late km mid mt md):=by
 cases r
 ·exact qsH h0 h1 h2 hm hu
 ·exact qsG h0 h1 h2 hm hu
theorem qrC {r:Bool} {m:Mine.BT} {lo:Int} {lt:U1} {hi:Int} {ht km:U1} {late:Bool} {mid:Int} {mt:U1} (h1:¬lo<hi):VC w 1 (qcn w.params (fdB w.params r) r m lo lt hi ht late km mid mt):=by
 cases r
 ·exact qsJ h1
 ·exact qsI h1
theorem qlT {r:Bool} {x lo hi:Int} (h:lo<hi) (hu:(lo+hi)/2<zS r x):ze r x lo hi=ze r x ((lo+hi)/2+1) hi:=by
 unfold ze
 repeat' split <;> lia
theorem qlV {r:Bool} {x lo hi:Int} (h:lo<hi) (hu:¬(lo+hi)/2<zS r x):ze r x lo hi=ze r x lo ((lo+hi)/2):=by
 unfold ze
 repeat' split <;> lia
theorem qfx {r:Bool} {x lo:Int}:ze r x lo lo=lo:=by
 unfold ze
 repeat' split <;> lia
theorem qsF {r:Bool} {m:Mine.BT} {A:Around} {R:Result→T2→Prop} {ads:List Nat} (d:Nat):∀(lo:Int) (lt:U1) (hi:Int) (ht km:U1) (late:Bool) (mid:Int) (mt:U1) (s:T2),zk w A ads s→0≤lo→lo≤hi→hi≤16→hi-lo≤d→0≤mid→
  Objs s.heap ads [biO w.params m lo lt hi ht late km mid mt]→
  (∀(s':T2) (lt' ht' km':U1) (mid':Int) (mt':U1),zp s s' ads→0≤mid'→Objs s'.heap ads [biO w.params m (ze r m.x lo hi) lt' (ze r m.x lo hi) ht' (late||decide (lo<hi)) km' mid' mt']→R (.ok .next) s')→
  codeAny (model prog w) A (uM r (fdB w.params r) (adF ads 0 0)) R s:=by
 induction d with
 | zero =>
  intro lo lt hi ht km late mid mt s G h0 h1 h2 hd hmid hob hfin
  obtain rfl:lo=hi:=by clear hob hfin G;lia
  refine qrC (lt:=lt) (ht:=ht) (km:=km) (late:=late) (mid:=mid) (mt:=mt) (Int.lt_irrefl lo) A ads s R G.h0 G.hd G.hu G.hkt (λp hp=>nomatch hp) G.nd G.off hob (λk hk=>nomatch hk) G.bare λν s1 P => ?_
  refine hfin s1 lt ht km mid mt P.kept hmid ?_
  rw [qfx,decide_eq_false (Int.lt_irrefl lo),S9]
  exact P.post
 | succ d ih =>
  intro lo lt hi ht km late mid mt s G h0 h1 h2 hd hmid hob hfin
  by_cases hlt:lo<hi
  ·have hf:(lo+hi).fdiv 2=(lo+hi)/2:=by rw [J7 _ (by decide)]
   have b1:lo≤(lo+hi)/2∧(lo+hi)/2<hi∧hi-((lo+hi)/2+1)≤d∧(lo+hi)/2-lo≤d:=by clear hob hfin G ih;lia
   by_cases hu:(lo+hi)/2<zS r m.x
   ·refine qrs (lt:=lt) (ht:=ht) (late:=late) (km:=km) (mid:=mid) (mt:=mt) h0 hlt h2 hf (decide_eq_true hu) A ads s R G.h0 G.hd G.hu G.hkt (λp hp=>nomatch hp) G.nd G.off hob (λk hk=>nomatch hk) G.bare λν s1 P => ?_
    refine ih ((lo+hi)/2+1) (ν 3) hi ht (ν 4) true ((lo+hi)/2) (ν 5) s1 (G.next P.kept) (K5 h0 (K5 b1.1 (Int.le_of_lt (Int.lt_succ _)))) b1.2.1 h2 b1.2.2.1 (K5 h0 b1.1) P.post λs2 lt' ht' km' mid' mt' K2 hm2 q2 => ?_
    refine hfin s2 lt' ht' km' mid' mt' (P.kept.trans K2 λa ha => .inl ha) hm2 ?_
    rw [qlT hlt hu,decide_eq_true hlt,M4]
    exact q2
   ·refine qrs (lt:=lt) (ht:=ht) (late:=late) (km:=km) (mid:=mid) (mt:=mt) h0 hlt h2 hf (decide_eq_false hu) A ads s R G.h0 G.hd G.hu G.hkt (λp hp=>nomatch hp) G.nd G.off hob (λk hk=>nomatch hk) G.bare λν s1 P => ?_
    refine ih lo lt ((lo+hi)/2) (ν 3) (ν 4) true ((lo+hi)/2) (ν 5) s1 (G.next P.kept) h0 b1.1 (K5 (Int.le_of_lt b1.2.1) h2) b1.2.2.2 (K5 h0 b1.1) P.post λs2 lt' ht' km' mid' mt' K2 hm2 q2 => ?_
    refine hfin s2 lt' ht' km' mid' mt' (P.kept.trans K2 λa ha => .inl ha) hm2 ?_
    rw [qlV hlt hu,decide_eq_true hlt,M4]
    exact q2
  ·obtain rfl:lo=hi:=by clear hob hfin G ih;lia
   refine qrC (lt:=lt) (ht:=ht) (km:=km) (late:=late) (mid:=mid) (mt:=mt) hlt A ads s R G.h0 G.hd G.hu G.hkt (λp hp=>nomatch hp) G.nd G.off hob (λk hk=>nomatch hk) G.bare λν s1 P => ?_
   refine hfin s1 lt ht km mid mt P.kept hmid ?_
   rw [qfx,decide_eq_false hlt,S9]
   exact P.post
theorem y9 {r:Bool} {m:Mine.BT} {lo:Int} {lt:U1} {hi:Int} {ht:U1} {res:Int} (h0:0≤lo) (h1:lo≤hi) (h2:hi≤16) (hr:ze r m.x lo hi=res) {lb:Bool} (hl:decide (lo<hi)=lb):VC w 1 (qkj w.params (fdB w.params r) r m lo lt hi ht res lb):=by
 subst hr hl
 intro A ads s R hh hd hu hkt hok hnd hoff hob hfz hbare hfin
 have G:zk w A ads s:=⟨hh,hd,hu,hkt,hnd,hoff,hbare⟩
 refine qsF 16 lo lt hi ht 0 false 0 0 s G h0 h1 h2 (by lia) (R8 0) hob λs2 lt' ht' km' mid' mt' K2 hm2 q2 => ?_
 obtain ⟨k,rfl⟩:=J5 hm2
 rw [Q4] at q2
 exact hfin (nu s2.heap.objs.size s2.toks s2.gens.size [lt',ht',km',k,mt']) s2 (zp.post K2 q2 rfl rfl rfl rfl rfl)
noncomputable def uF (v:T1):U1:=match v with
 | .bytes _ t=>t
 | _=>0
noncomputable def qtr (x:Int) (o:Obj):Mine.BT:=⟨zM o 0,zM o 1,zM o 2,zM o 3,zM o 4,uF (qci o 0).val,x,yI o 1⟩
noncomputable def uI (p:T4) (fd:T5) (r:Bool) (x lo hi res:Int) (lb:Bool) (os:List Obj):Ctr:=qkj p fd r (qtr x (at0 os 0)) lo (yI (at0 os 0) 2) hi (yI (at0 os 0) 3) res lb
noncomputable def qfy (r:Bool) (la:U1) (x:Int) (xt:U1) (lo:Int) (lt:U1) (hi:Int) (ht:U1) (res:Int):Ctr where
 code _ := .call (.ref (biA r)) ⟨[.bytes zz la, .int x xt, .int lo lt, .int hi ht],[]⟩
 ok _:=[]
 pre _:=[]
 res _ ν := .done (.ok (.ret (.int res (ν 3))))
 post _ _:=[]
 news _ _:=[]
 frz:=[]
noncomputable def qlW (r:Bool) (la:U1) (x:Int) (xt:U1) (res:Int):Ctr where
 code _ := .call (.ref (biA r)) ⟨[.bytes zz la, .int x xt],[]⟩
 ok _:=[]
 pre _:=[]
 res _ ν := .done (.ok (.ret (.int res (ν 3))))
 post _ _:=[]
 news _ _:=[]
 frz:=[]
theorem qsN (la:U1) (x:Int) (xt:U1) (lo:Int) (lt:U1) (hi:Int) (ht:U1) (res:Int) (lb:Bool):RunOk w (qfy false la x xt lo lt hi ht res) 0 60 [] [] (hx 0x10f116f01d0f00d) [oF] [(cO 1 (uI w.params (fdB w.params false) false x lo hi res lb) [0])] (λ_ _ _ _=>[(.bool (decide (lo<0)), .bool false)]) (λa N t0 gN=>[a.c 0 3]):=λN t0 gN a x' y' z'=>by
 cases lb <;> kernel_rfl
theorem qsL {la:U1} {x:Int} {xt:U1} {lo:Int} {lt:U1} {hi:Int} {ht:U1} {res:Int} (h0:0≤lo) (h1:lo≤hi) (h2:hi≤16) (hr:ze false x lo hi=res):VC w 2 (qfy false la x xt lo lt hi ht res):=by
 refine qu 0 λads hl hok => ?_
 obtain rfl:=E5 hl
 refine (C2 (qsN la x xt lo lt hi ht res (decide (lo<hi))) (qa (λ_ os=>y9 h0 h1 h2 hr rfl) B0) (λ_ _ t0 _ p hp => ?_))
 rcases E2.mp hp with rfl | hp
 ·exact vb (decide_eq_false (by lia))
 ·cases hp
theorem yN {la:U1} {x:Int} {xt:U1} {res:Int} (hr:ze false x 0 16=res):VC w 2 (qlW false la x xt res):=vcr 0 86 [] (hx 0x11f1010116f01d0f00d) [] [(cO 5 (uI w.params (fdB w.params false) false x 0 16 res true) [0])] (λ_ _ _ _=>[]) (λa N t0 gN=>[a.c 0 3]) (qa (λ_ os=>y9 (by decide) (by decide) (by decide) hr rfl) B0) (λ_ _ t0 _ p hp=>nomatch hp)
theorem qsM (la:U1) (x:Int) (xt:U1) (lo:Int) (lt:U1) (hi:Int) (ht:U1) (res:Int) (lb:Bool):RunOk w (qfy true la x xt lo lt hi ht res) 0 60 [] [] (hx 0x10f116f01d0f00d) [oF] [(cO 1 (uI w.params (fdB w.params true) true x lo hi res lb) [0])] (λ_ _ _ _=>[(.bool (decide (lo<0)), .bool false)]) (λa N t0 gN=>[a.c 0 3]):=λN t0 gN a x' y' z'=>by
 cases lb <;> kernel_rfl
theorem qsK {la:U1} {x:Int} {xt:U1} {lo:Int} {lt:U1} {hi:Int} {ht:U1} {res:Int} (h0:0≤lo) (h1:lo≤hi) (h2:hi≤16) (hr:ze true x lo hi=res):VC w 2 (qfy true la x xt lo lt hi ht res):=by
 refine qu 0 λads hl hok => ?_
 obtain rfl:=E5 hl
 refine (C2 (qsM la x xt lo lt hi ht res (decide (lo<hi))) (qa (λ_ os=>y9 h0 h1 h2 hr rfl) B0) (λ_ _ t0 _ p hp => ?_))
 rcases E2.mp hp with rfl | hp
 ·exact vb (decide_eq_false (by lia))
 ·cases hp
theorem qij {la:U1} {x:Int} {xt:U1} {res:Int} (hr:ze true x 0 16=res):VC w 2 (qlW true la x xt res):=vcr 0 86 [] (hx 0x11f1010116f01d0f00d) [] [(cO 5 (uI w.params (fdB w.params true) true x 0 16 res true) [0])] (λ_ _ _ _=>[]) (λa N t0 gN=>[a.c 0 3]) (qa (λ_ os=>y9 (by decide) (by decide) (by decide) hr rfl) B0) (λ_ _ t0 _ p hp=>nomatch hp)
theorem qc3:plainId "int.__abs__"=true:=by decide +kernel
theorem qkU:plainId "int.__divmod__"=true:=by decide +kernel
theorem qhi:plainId "bytes.__add__"=true:=by decide +kernel
theorem qhh:plainId "bytes.__getitem__"=true:=by decide +kernel
theorem qaA {lev:Nat} {x n:Int} {t:U1} (h:(x<0∧n = -x)∨(¬x<0∧n=x)):VC w lev (zW "int.__abs__" ⟨[.int x t],[]⟩ λv => .int n v):=by
 rcases h with ⟨h,rfl⟩ | ⟨h,rfl⟩
 ·exact zO qc3 PySem.F.entry_int_abs (PySem.AutoIntG0.int___abs___int_0 x t h) λs Q q=>q s.toks (s.toks+1)
 ·exact zO qc3 PySem.F.entry_int_abs (PySem.AutoIntG1.int___abs___int_1 n t h) λs Q q=>q t s.toks
noncomputable def dmC (n b q r:Int) (t u:U1):Ctr where
 code ads := .builtin "int.__divmod__" ⟨[.int n t, .int b u],[]⟩
 ok ads:=[]
 pre ads:=[]
 res ads ν := .done (.ok (.ret (.ref (ν 3))))
 post ads ν:=[]
 news ads ν:=[qkA 0 q (ν 4) r (ν 5)]
 frz:=[]
theorem qbD {lev:Nat} {n b q r:Int} {t u:U1} (hb:b≠0) (hb2:b.natAbs<1073741824) (hq:n.fdiv b=q) (hr:n.fmod b=r):VC w lev (dmC n b q r t u):=by
 subst hq hr
 intro A ads s R h0 hd hu hkt hok hnd hoff hob hfz hbare hfin
 obtain rfl:ads=[]:=by
  match ads,hob with
  | [],_=>rfl
 have hb':(b==0)=false:=by simpa using hb
 refine codeAny_builtin PyProof.Rows.entry_int_divmod ?_
 rw [G4 qkU]
 show wpAny _ _ (do
  if b==0 then rule "int.divmod.zero";raiseError "ZeroDivisionError" "integer division or modulo by zero"
  Builtin.roomForPylong n b
  ret (←newTuple [←mkInt (n.fdiv b),←mkInt (n.fmod b)])) _ _ s
 simp only [hb',K3,if_false]
 refine T9 (wpAny_roomForPylong (.inl (PyProof.noPylong_small hb2)) ?_)
 refine T9 (wpAny_mkInt (T9 (wpAny_mkInt (T9 (wpAny_newTuple (wpAny_pure ?_))))))
 refine hfin (nu (s.heap.objs.size+1) (s.toks+2) s.gens.size [s.heap.objs.size,s.toks,s.toks+1]) _ ⟨trivial,⟨I4 _ rfl,trivial⟩,?_,?_,λb o e _=>E8 _ e,N9 _,?_,rfl,rfl,F4 _,λ_ _=>rfl,hbare,rfl,rfl,λk hk=>nomatch hk⟩
 ·exact F3.mpr ⟨(λh=>nomatch h),F8⟩
 ·intro b hb
  rcases E2.mp hb with rfl | hb
  ·exact F4 _
  ·cases hb
 ·show (s.heap.push _).objs.size=s.heap.objs.size+1
  exact K4 _
theorem uJ {lev:Nat} {b c d:Array UInt8} {t u:U1} (hl:b.size+c.size≤1000) (hd:b++c=d):VC w lev (zW "bytes.__add__" ⟨[.bytes b t, .bytes c u],[]⟩ λv => .bytes d v):=by
 subst hd
 refine zO qhi PySem.W.FB.entry_bytes_add (KBy.gives_bytes_add (KBy.tooLong_not (by lia))) λs Q q => ?_
 by_cases h1:b.isEmpty=true
 ·rw [if_pos h1]
  have e:b = #[]:=R7.mp h1
  subst e
  have z:=q u s.toks
  rw [Q9] at z
  exact z
 ·rw [if_neg h1]
  by_cases h2:c.isEmpty=true
  ·rw [if_pos h2]
   have e:c = #[]:=R7.mp h2
   subst e
   have z:=q t s.toks
   rw [Q8] at z
   exact z
  ·rw [if_neg h2]
   exact ⟨by rw [R6];unfold sizeLine;lia,q s.toks (s.toks+1)⟩
noncomputable def qkM (lo:Int) (lt:U1) (hi:Int) (ht:U1):Obj:=⟨.type "slice",none, .fields #[.int lo lt, .int hi ht, .none],#[]⟩
noncomputable def qrp (lo:Int) (lt:U1) (hi:Int) (ht:U1) (b:Array UInt8) (t:U1):Ctr where
 code ads := .builtin "bytes.__getitem__" ⟨[.bytes zz t, .ref (adF ads 0 0)],[]⟩
 ok ads:=[]
 pre ads:=[qkM lo lt hi ht]
 res ads ν := .done (.ok (.ret (.bytes b (ν 3))))
 post ads ν:=[qkM lo lt hi ht]
 news ads ν:=[]
 frz:=[]
theorem qau {lev:Nat} {lo:Int} {lt:U1} {hi:Int} {ht:U1} {b:Array UInt8} {t:U1} (hb:KBy.picked zz (some lo) (some hi)=b) (hs:b.size≤1000):VC w lev (qrp lo lt hi ht b t):=by
 subst hb
 intro A ads s R h0 hd hu hkt hok hnd hoff hob hfz hbare hfin
 obtain ⟨a,rfl⟩:∃a,ads=[a]:=by
  match ads,hob with
  | [a],_=>exact ⟨a,rfl⟩
 have ho:s.heap.get? a=some (qkM lo lt hi ht):=hob.1
 refine codeAny_builtin PySem.W.FB.entry_bytes_getitem ?_
 rw [G4 qhh]
 refine KBc.meets_slice2 zz t a (.int lo lt) (.int hi ht) prog w A R s ⟨⟨_,ho,rfl,rfl⟩,by unfold sizeLine;lia,λt' k => ?_⟩
 exact hfin (nu s.heap.objs.size k s.gens.size [t']) _ ⟨hob,trivial,F8,(λa h=>nomatch h),λb o e _=>e,F4 _,rfl,rfl,rfl,F4 _,λ_ _=>rfl,hbare,rfl,rfl,λk hk=>nomatch hk⟩
end
section
noncomputable def apC (x:Int) (t:U1) (r:Array UInt8):Ctr where
 code ads := .call (.ref 243) ⟨[.int x t],[]⟩
 ok ads:=[]
 pre ads:=[]
 res ads ν := .done (.ok (.ret (.bytes r (ν 3))))
 post ads ν:=[]
 news ads ν:=[]
 frz:=[]
noncomputable def qik (x n:Int) (c:Code):Ctr:=zW "int.__abs__" ⟨[.int x (qe c 0)],[]⟩ λv => .int n v
noncomputable def qlK (n q r:Int) (c:Code):Ctr:=dmC n 16 q r (qe c 0) (qe c 1)
noncomputable def qic (d e:Int) (b:Array UInt8) (c:Code) (os:List Obj):Ctr:=qrp d (qbz (at0 os 0) 0) e (qbz (at0 os 0) 1) b (uF (uE c 0))
noncomputable def qfz (b c r:Array UInt8) (k:Code):Ctr:=zW "bytes.__add__" ⟨[.bytes b (uF (uE k 0)), .bytes c (uF (uE k 1))],[]⟩ λv => .bytes r v
variable {w:T3}
theorem qtz (x n:Int) (t:U1):RunOk w (apC x t #[]) 0 84 [] [] (hx 0x100804e0f11001d000d) [oF] [(cC 4 (qik x n) [])] (λ_ _ _ _=>[(.bool (n != 0), .bool false)]) (λa N t0 gN=>[t0+1]):=λN t0 gN a x' y' z'=>by
 kernel_rfl
theorem qty (x n d:Int) (b r:Array UInt8) (t:U1):RunOk w (apC x t r) 0 194 [] [] (hx 0x18f305d0a07e2f111f03d0f02d10a04e0f11001d000d) [oT] [(cC 4 (qik x n) []),(cC 10 (qlK n 0 d) []),(cX 11 (λc os=>qic d (d+1) b c os) [5]),(cC 1 (qfz b #[] r) [])] (λ_ _ _ _=>[(.bool (n != 0), .bool true)]) (λa N t0 gN=>[a.c 3 3]):=λN t0 gN a x' y' z'=>by
 kernel_rfl
theorem qtx (x n q d e:Int) (b c r r':Array UInt8) (t:U1):RunOk w (apC x t r') 0 304 [] [] (hx 0x100b29e0ad1529e08d0f07d1047f305d0a07e2f111f03d0f02d10a04e0f11001d000d) [oT,(1, .bool true)] [(cC 4 (qik x n) []),(cX 10 (λk _=>qlK n q d k) []),(cX 11 (λk os=>qic d (d+1) b k os) [5]),(cX 1 (λk _=>qfz b #[] r k) []),(cX 4 (λk _=>qlK q 0 e k) []),(cX 11 (λk os=>qic e (e+1) c k os) [10]),(cX 1 (λk _=>qfz c r r' k) [])] (λ_ _ _ _=>[(.bool (q != 0), .bool true),(.bool (n != 0), .bool true)]) (λa N t0 gN=>[a.c 6 3]):=λN t0 gN a x' y' z'=>by
 kernel_rfl
noncomputable def zn (d:Nat):UInt8:=UInt8.ofNat (65+d)
theorem qro:∀d:_root_.Fin 16,KBy.picked zz (some (d.val:Int)) (some ((d.val:Int)+1)) = #[zn d.val]:=by decide +kernel
theorem qft {d:Nat} (h:d<16):KBy.picked zz (some (d:Int)) (some ((d:Int)+1)) = #[zn d]:=qro ⟨d,h⟩
theorem qlZ {x:Int}:(x<0∧(x.natAbs:Int) = -x)∨(¬x<0∧(x.natAbs:Int)=x):=by lia
theorem qfj (n:Nat):((n:Int)).fdiv 16=((n/16:Nat):Int):=by
 rw [J7 _ (by decide)];lia
theorem qfh (n:Nat):((n:Int)).fmod 16=((n%16:Nat):Int):=by
 rw [M1 _ (by decide)];lia
theorem qeJ {n:Int} (h:n≠0):(n != 0)=true:=by simp [bne,h]
noncomputable def uj (n:Nat):Array UInt8:=if n=0 then #[] else if n<16 then #[zn n] else #[zn (n/16),zn (n%16)]
theorem qfD {x:Int} {t:U1} (h:x.natAbs<256):VC w 1 (apC x t (uj x.natAbs)):=by
 refine qu 0 λads hl hok => ?_
 obtain rfl:=E5 hl
 unfold uj
 by_cases h0:x.natAbs=0
 ·rw [if_pos h0]
  refine (C2 (qtz x (x.natAbs:Int) t) (qa (λ_ _=>qaA qlZ) B0) (λ_ _ _ _ p hp => ?_))
  rcases E2.mp hp with rfl | hp
  ·exact vb (by rw [h0];rfl)
  ·cases hp
 ·rw [if_neg h0]
  by_cases h1:x.natAbs<16
  ·rw [if_pos h1]
   refine (C2 (qty x (x.natAbs:Int) (x.natAbs:Int) #[zn x.natAbs] #[zn x.natAbs] t) (qa (λ_ _=>qaA qlZ) (qa (λ_ _=>qbD (by decide) (by decide) (by rw [qfj];lia) (by rw [qfh];lia)) (qa (λ_ _=>qau (qft h1) (by simp)) (qa (λ_ _=>uJ (by simp) (by simp)) B0)))) (λ_ _ _ _ p hp => ?_))
   rcases E2.mp hp with rfl | hp
   ·exact vb (qeJ (by lia))
   ·cases hp
  ·rw [if_neg h1]
   refine (C2 (qtx x (x.natAbs:Int) ((x.natAbs/16:Nat):Int) ((x.natAbs%16:Nat):Int) ((x.natAbs/16:Nat):Int) #[zn (x.natAbs%16)] #[zn (x.natAbs/16)] #[zn (x.natAbs%16)] #[zn (x.natAbs/16),zn (x.natAbs%16)] t) (qa (λ_ _=>qaA qlZ) (qa (λ_ _=>qbD (by decide) (by decide) (qfj _) (qfh _)) (qa (λ_ _=>qau (qft (by lia)) (by simp)) (qa (λ_ _=>uJ (by simp) (by simp)) (qa (λ_ _=>qbD (by decide) (by decide) (by rw [qfj];lia) (by rw [qfh];lia)) (qa (λ_ _=>qau (qft (by lia)) (by simp)) (qa (λ_ _=>uJ (by simp) (by simp)) B0))))))) (λ_ _ _ _ p hp => ?_))
   simp only [E2,F5,or_false] at hp
   rcases hp with rfl | rfl
   ·exact vb (qeJ (by lia))
   ·exact vb (qeJ (by lia))
end
section
open Sem (wp)
noncomputable def qs4 (env:Env) (o:Obj) (back:T1):Array (Option T1) := #[some env.code,some (.ref env.globals),o.slots.getD 2 none,some back,o.slots.getD 4 none,env.func.map Value.ref,some (.ref env.builtins)]++(env.cells.map λc=>some (.ref c.2)).toArray
noncomputable def rdF (env:Env) (back:T1) (o:Obj):Obj:={o with slots:=qs4 env o back}
structure PlainEnv (e:Env):Prop where
 k:e.scope.kind≠ .module
 g:(e.scope.isGenerator||e.scope.isCoroutine)=false
section
variable {M:Model} {A:Around} {E:T1→T2→Prop} {s:T2}
theorem qaw {e:Env} {l:List Env} (h:PlainEnv e):behindIsImport e l=pure false:=by
 simp [behindIsImport,h.k]
theorem ue {e e1:Env} {l:List Env} {L a1:Addr} {o:Obj} {Q:Unit→T2→Prop} (hp:PlainEnv e) (hf:e.frame=some L) (hf1:e1.frame=some a1) (ho:s.heap.get? L=some o) (hn:(o.slots.getD 3 none).isSome=false)
  (h:wpAny M A (readyFrames (e1::l)) Q E {s with heap:=s.heap.update L (rdF e (.ref a1))}):wpAny M A (readyFrames (e::e1::l)) Q E s:=by
 rw [readyFrames.eq_def]
 simp only [hf]
 refine T9 (wpAny_load ho ?_)
 rw [if_neg (by rw [hn];exact F7)]
 refine T9 (wpAny_of_eq (a:=false) (qaw hp) ?_)
 have e2:keptBack e false (e1::l)=pure (.ref a1):=by
  simp only [keptBack,hp.g,hf1]
  rfl
 rw [e2]
 exact T9 (wpAny_pure (T9 (wpAny_update ho h)))
theorem qhb {e:Env} {L:Addr} {o:Obj} {Q:Unit→T2→Prop} (hp:PlainEnv e) (hf:e.frame=some L) (ho:s.heap.get? L=some o) (hn:(o.slots.getD 3 none).isSome=false)
  (h:∀b:Bool,Q () {s with heap:=s.heap.update L (rdF e (if b=true then .notImplemented else .none))}):wpAny M A (readyFrames [e]) Q E s:=by
 rw [readyFrames.eq_def]
 simp only [hf]
 refine T9 (wpAny_load ho ?_)
 rw [if_neg (by rw [hn];exact F7)]
 refine T9 (wpAny_of_eq (a:=false) (qaw hp) ?_)
 have e2:keptBack e false []=(underTheClaimsCaller >>= λb=>pure (if b=true then .notImplemented else .none)):=by
  simp only [keptBack,hp.g]
  rfl
 rw [e2]
 refine T9 (T9 (wpAny_underTheClaimsCaller λb=>wpAny_pure ?_))
 exact T9 (wpAny_update ho (by rw [readyFrames.eq_def];exact wpAny_pure (h b)))
theorem qha {e:Env} {l:List Env} {L:Addr} {o:Obj} {Q:Unit→T2→Prop} (hf:e.frame=some L) (ho:s.heap.get? L=some o) (hn:(o.slots.getD 3 none).isSome=true)
  (h:Q () s):wpAny M A (readyFrames (e::l)) Q E s:=by
 rw [readyFrames.eq_def]
 simp only [hf]
 refine T9 (wpAny_load ho ?_)
 rw [if_pos hn]
 exact wpAny_pure h
theorem qno {hr:Bool→Heap} {env:Env} {outer:List Env} {L e:Addr} {oe:Obj} {vs:Array T1} {Q:Unit→T2→Prop} (hfr:A.frames=some (env::outer)) (hf:env.frame=some L)
  (hR:∀{Q:Unit→T2→Prop},(∀b,Q () {s with heap:=hr b})→wpAny M A (readyFrames (env::outer)) Q E s) (he:s.heap.get? e=some oe) (hr1:∀b,(hr b).get? e=some oe) (hd:oe.data = .fields vs) (hv:vs[1]? = some .none)
  (h:∀b pl,IsPlace pl→Q () {s with heap:=(((hr b).push (entryO .none (.ref L) L pl)).update e (G9 (·.setIfInBounds 1 (.ref (hr b).objs.size)))).update (hr b).objs.size (G9 (·.setIfInBounds 3 .none))}):wpAny M A (leaving env (.ref e)) Q E s:=by
 have hsz:1<vs.size:=(L3.mp hv).1
 unfold leaving noteFrame
 simp only [hf]
 refine T9 (T9 (wpAny_field he hd hv ?_))
 rw [if_neg (by decide)]
 unfold PySem.frameOf
 refine T9 (T9 (wpAny_frameEnvs hfr ?_))
 have hdw:((env::outer).dropWhile λx=>x.frame != env.frame)=env::outer:=by simp [S7]
 rw [hdw]
 unfold frameObject
 refine T9 (T9 (hR λb=>wpAny_pure ?_))
 rw [hf]
 refine wpAny_pure (T9 (wpAny_entryPlaceOf λpl hpl => ?_))
 unfold EntryCells.newEntry newFields
 refine T9 (wpAny_newObj_type ?_ (hpl.sizeOk5 _ _ _ _ _))
 have he2:((hr b).push (entryO .none (.ref L) L pl)).get? e=some oe:=E8 _ (hr1 b)
 refine wpAny_setField he2 hd hsz ?_
 have hT:(hr b).objs.size≠e:=R2 (I0 (hr1 b))
 have hd3:=R3 hd (·.setIfInBounds 1 (Value.ref (hr b).objs.size))
 have he3:=G2 (G9 (·.setIfInBounds 1 (Value.ref (hr b).objs.size))) he2 (P8 hd3)
 have hT3:=(F9 ((hr b).push (entryO .none (.ref L) L pl)) (G9 (·.setIfInBounds 1 (Value.ref (hr b).objs.size))) (Ne.symm hT)).trans (I4 (hr b) rfl)
 unfold setFlight
 refine T9 (wpAny_field he3 hd3 (x := .ref (hr b).objs.size) (by simp [hsz]) ?_)
 rw [if_pos (show (Value.ref (hr b).objs.size != Value.none)=true from by simp)]
 refine wpAny_setField hT3 rfl (by simp only [List.size_toArray,G1,K7,S5] <;> lia) ?_
 exact h b pl hpl
end
theorem qhI {h:Heap} {L e:Addr} {oe:Obj} {vs:Array T1} {pl:List T1} (he:h.get? e=some oe) (hd:oe.data = .fields vs) :
  (∀b o,h.get? b=some o→b≠e→((((h.push (entryO .none (.ref L) L pl)).update e (G9 (·.setIfInBounds 1 (.ref h.objs.size)))).update h.objs.size (G9 (·.setIfInBounds 3 .none))).get? b=some o))∧
  ((((h.push (entryO .none (.ref L) L pl)).update e (G9 (·.setIfInBounds 1 (.ref h.objs.size)))).update h.objs.size (G9 (·.setIfInBounds 3 .none))).get? e=some (oe.mapFields (·.setIfInBounds 1 (.ref h.objs.size))))∧
  ((((h.push (entryO .none (.ref L) L pl)).update e (G9 (·.setIfInBounds 1 (.ref h.objs.size)))).update h.objs.size (G9 (·.setIfInBounds 3 .none))).get? h.objs.size=some ((entryO .none (.ref L) L pl).mapFields (·.setIfInBounds 3 .none)))∧
  ((((h.push (entryO .none (.ref L) L pl)).update e (G9 (·.setIfInBounds 1 (.ref h.objs.size)))).update h.objs.size (G9 (·.setIfInBounds 3 .none))).objs.size=h.objs.size+1):=by
 have hT:h.objs.size≠e:=R2 (I0 he)
 have he2:(h.push (entryO .none (.ref L) L pl)).get? e=some oe:=E8 _ he
 have hd3:=R3 hd (·.setIfInBounds 1 (Value.ref h.objs.size))
 refine ⟨λb o hb hbe => ?_,?_,?_,?_⟩
 ·have hbT:h.objs.size≠b:=R2 (I0 hb)
  rw [F9 _ _ hbT,F9 _ _ (Ne.symm hbe)]
  exact E8 _ hb
 ·rw [F9 _ _ hT]
  exact G2 _ he2 (P8 hd3)
 ·refine G2 _ ?_ rfl
  rw [F9 _ _ (Ne.symm hT)]
  exact I4 _ rfl
 ·rw [J6,J6,J4]
noncomputable def plN (f0:Nat→Nat) (L:List Nat) (k:Nat):Nat:=if k<40 then f0 k else L.getD (k-40) 0
theorem qnc (f0:Nat→Nat) (a1 a2 b1 b2 c1 c2 d1 d2 n9 b9:Nat) (l9:List Nat):qhj (plN f0 (1::a1::a2::b1::b2::c1::c2::n9::l9.length::b9::d1::d2::0::0::0::0::0::0::0::0::l9))=⟨l9.toArray⟩:=by
 unfold qhj
 congr 1
 congr 1
 refine ym rfl λi hi => ?_
 show (if 60+i<40 then f0 (60+i) else _)=_
 have e:60+i-40=i+20:=by lia
 rw [if_neg (by lia),e]
 show l9.getD i 0=_
 simp [hi]
theorem qr5 {pl:List T1} (h:IsPlace pl) (f0:Nat→Nat):∃ν:Nat→Nat,(∀k,k<40→ν k=f0 k)∧(if pl.isEmpty then F2 6 Value.none else pl)=[plV ν 0,plV ν 1,plV ν 2,plV ν 3,plV ν 4,plV ν 5]:=by
 rcases h with rfl | ⟨a,b,c,d,c9,b10,h9,rfl⟩
 ·exact ⟨λk=>if k<40 then f0 k else 0,λk hk=>if_pos hk,rfl⟩
 ·have enc:∀i:Int,∃x y,plI x y=i:=λi=>by
   cases i with
   | ofNat n=>exact ⟨0,n,rfl⟩
   | negSucc n=>exact ⟨1,n,rfl⟩
  obtain ⟨a1,a2,rfl⟩:=enc a
  obtain ⟨b1,b2,rfl⟩:=enc b
  obtain ⟨c1,c2,rfl⟩:=enc c
  obtain ⟨d1,d2,rfl⟩:=enc d
  obtain ⟨n9,l9,hc⟩:∃(n9:Nat) (l9:List Nat),c9=(match n9 with | 0=>Value.none | _+1 => .str ⟨l9.toArray⟩ 0):=by
   rcases h9 with rfl | ⟨x,rfl⟩
   ·exact ⟨0,[],rfl⟩
   ·exact ⟨1,x.cps.toList,rfl⟩
  refine ⟨plN f0 (1::a1::a2::b1::b2::c1::c2::n9::l9.length::(if b10=true then 1 else 0)::d1::d2::0::0::0::0::0::0::0::0::l9),λk hk=>if_pos hk,?_⟩
  have e4:=qnc f0 a1 a2 b1 b2 c1 c2 d1 d2 n9 (if b10=true then 1 else 0) l9
  show [rawInt (plI a1 a2),rawInt (plI b1 b2),rawInt (plI c1 c2),rawInt (plI d1 d2),c9,Value.bool b10]=_
  rw [hc]
  congr 1
  congr 1
  congr 1
  congr 1
  congr 1
  ·cases n9 with
   | zero=>rfl
   | succ n=>exact congrArg (Value.str · 0) e4.symm
  ·cases b10 <;> rfl
end
section
open Sem (wp)
variable {w:T3}
noncomputable def yJ (r:Bool) (fd:T5) (F:Nat):Sem PySem.Fin:=match fd.body with
 | .stmts l=>PySem.W.Fast.rawQ l (jF r fd F)
 | _ => .unsupported ""
noncomputable def qbk (prog:T6) (w:T3) (A₀:Around) (c:Code) (env:Env) (R:Result→T2→Prop) (r:Result) (s:T2):Prop:=match r with
 | .ok f=>R (.ok f) s
 | .error e=>wpOwn (model prog w) A₀ c (leaving env e) (λ_ s''=>R (.error e) s'') (λe' s''=>R (.error e') s'') s
theorem qkS {prog:T6} {A₀:Around} {body:List Stmt} {env:Env} (hd:(A₀.under (.func body env)).depth<U0) (hu:(A₀.under (.func body env)).units<cLine) {R:Result→T2→Prop} {s:T2}
  (h:W prog w A₀ (.func body env) (rawN body env) (postC prog w A₀ (qbk prog w A₀ (.func body env) env R)) (postE (qbk prog w A₀ (.func body env) env R)) s) :
  wpOwn (model prog w) A₀ (.func body env) (denote table (.func body env)) (postC prog w A₀ R) (postE R) s:=by
 have h2:W prog w A₀ (.func body env) (vP 8 body env >>= λf=>match f with | .ret v=>(ret v:Sem PySem.Fin) | _=>ret .none) (postC prog w A₀ (qbk prog w A₀ (.func body env) env R)) (postE (qbk prog w A₀ (.func body env) env R)) s:=h
 refine y_skim _ _ _ _ _ _ _ _ _ 1 ?_
 have h3:=uy hd hu 8 body env A₀ _ rfl _ _ _ (qaB _ _ h2)
 show wpOwn (model prog w) A₀ _ ((execs body env).onRaise (leaving env) >>= λf=>match f with | .ret v=>(ret v:Sem PySem.Fin) | _=>ret .none) (postC prog w A₀ R) (postE R) s
 refine wpOwn_bind (qa5 (wpOwn_mono h3 (λf s'' h4 => ?_) λe s'' h4=>h4))
 have ret1:∀v,W prog w A₀ (.func body env) (ret v:Sem PySem.Fin) (postC prog w A₀ (qbk prog w A₀ (.func body env) env R)) (postE (qbk prog w A₀ (.func body env) env R)) s''→wpOwn (model prog w) A₀ (.func body env) (ret v:Sem PySem.Fin) (postC prog w A₀ R) (postE R) s'':=λv q=>by
  have q:R (.ok (.ret v)) s'':=q
  exact y_pure _ _ _ _ _ _ _ _ _ (y_done _ _ _ _ _ _ q)
 cases f <;> exact ret1 _ h4
noncomputable def qae:List Nat:=[1,0,0,12,12,12,12,12,12,12,12,12,12,12,12]
theorem qrB (ka kx kl kh kk la:U1) (x:Int) (xt lt:U1) (o1 o2 o3 o4 o5 o6 o7 o8 o9:Obj) (a0 a1 a2 a3 a4 a5 a6 a7 a8 a9:Nat) (N t0 gN:Nat) (a:FA) (x' y' z':Nat) :
  sumL 10 [11] (endT (yJ false (fdB w.params false) a0) prog w.params (ktOf w.params) 60 ((jn w.params (fdB w.params false) false ⟨ka,kx,kl,kh,kk,la,x,xt⟩ lt [o1,o2,o3,o4,o5,o6,o7,o8,o9]).code [a0,a1,a2,a3,a4,a5,a6,a7,a8,a9]) [a0,a1,a2,a3,a4,a5,a6,a7,a8,a9] ((jn w.params (fdB w.params false) false ⟨ka,kx,kl,kh,kk,la,x,xt⟩ lt [o1,o2,o3,o4,o5,o6,o7,o8,o9]).pre [a0,a1,a2,a3,a4,a5,a6,a7,a8,a9]) N t0 gN qae [] [] [] none a)
   = wH (jn w.params (fdB w.params false) false ⟨ka,kx,kl,kh,kk,la,x,xt⟩ lt [o1,o2,o3,o4,o5,o6,o7,o8,o9]) [a0,a1,a2,a3,a4,a5,a6,a7,a8,a9] (nug x' y' z' (adF [N+1,N+2] 0)) [] [] (endT (yJ false (fdB w.params false) a0) prog w.params (ktOf w.params) 60 ((jn w.params (fdB w.params false) false ⟨ka,kx,kl,kh,kk,la,x,xt⟩ lt [o1,o2,o3,o4,o5,o6,o7,o8,o9]).code [a0,a1,a2,a3,a4,a5,a6,a7,a8,a9]) [a0,a1,a2,a3,a4,a5,a6,a7,a8,a9] ((jn w.params (fdB w.params false) false ⟨ka,kx,kl,kh,kk,la,x,xt⟩ lt [o1,o2,o3,o4,o5,o6,o7,o8,o9]).pre [a0,a1,a2,a3,a4,a5,a6,a7,a8,a9]) N t0 gN qae [] [] [] none a):=by
 kernel_rfl
theorem qo5 (ka kx kl kh kk la:U1) (x:Int) (xt lt:U1) (o1 o2 o3 o4 o5 o6 o7 o8 o9:Obj) (a0 a1 a2 a3 a4 a5 a6 a7 a8 a9:Nat) (N t0 gN:Nat) (a:FA) (x' y' z':Nat) :
  sumL 10 [11] (endT (yJ true (fdB w.params true) a0) prog w.params (ktOf w.params) 60 ((jn w.params (fdB w.params true) true ⟨ka,kx,kl,kh,kk,la,x,xt⟩ lt [o1,o2,o3,o4,o5,o6,o7,o8,o9]).code [a0,a1,a2,a3,a4,a5,a6,a7,a8,a9]) [a0,a1,a2,a3,a4,a5,a6,a7,a8,a9] ((jn w.params (fdB w.params true) true ⟨ka,kx,kl,kh,kk,la,x,xt⟩ lt [o1,o2,o3,o4,o5,o6,o7,o8,o9]).pre [a0,a1,a2,a3,a4,a5,a6,a7,a8,a9]) N t0 gN qae [] [] [] none a)
   = wH (jn w.params (fdB w.params true) true ⟨ka,kx,kl,kh,kk,la,x,xt⟩ lt [o1,o2,o3,o4,o5,o6,o7,o8,o9]) [a0,a1,a2,a3,a4,a5,a6,a7,a8,a9] (nug x' y' z' (adF [N+1,N+2] 0)) [] [] (endT (yJ true (fdB w.params true) a0) prog w.params (ktOf w.params) 60 ((jn w.params (fdB w.params true) true ⟨ka,kx,kl,kh,kk,la,x,xt⟩ lt [o1,o2,o3,o4,o5,o6,o7,o8,o9]).code [a0,a1,a2,a3,a4,a5,a6,a7,a8,a9]) [a0,a1,a2,a3,a4,a5,a6,a7,a8,a9] ((jn w.params (fdB w.params true) true ⟨ka,kx,kl,kh,kk,la,x,xt⟩ lt [o1,o2,o3,o4,o5,o6,o7,o8,o9]).pre [a0,a1,a2,a3,a4,a5,a6,a7,a8,a9]) N t0 gN qae [] [] [] none a):=by
 kernel_rfl
theorem qjq (r:Bool) (F:Nat):PlainEnv (jF r (fdB w.params r) F):=by
 cases r
 ·exact ⟨by rw [show (jF false (fdB w.params false) F).scope.kind = .function by kernel_rfl];decide,by kernel_rfl⟩
 ·exact ⟨by rw [show (jF true (fdB w.params true) F).scope.kind = .function by kernel_rfl];decide,by kernel_rfl⟩
end
section
open Sem (wp)
variable {w:T3}
noncomputable def updL (h:Heap) (l:List (Nat×(Obj→Obj))):Heap:=l.foldl (λh p=>h.update p.1 p.2) h
theorem qcY:∀(l:List (Nat×(Obj→Obj))) (h:Heap),(updL h l).objs.size=h.objs.size
 | [],h=>rfl
 | p::l,h=>(qcY l (h.update p.1 p.2)).trans (J6 ..)
theorem wM:∀(l:List (Nat×(Obj→Obj))) (h:Heap) (b:Nat),(∀p∈l,p.1≠b)→(updL h l).get? b=h.get? b
 | [],h,b,_=>rfl
 | p::l,h,b,hb=>(wM l _ b λq hq=>hb q (.tail _ hq)).trans (F9 _ _ (hb p (.head _)))
theorem qaP (e:Env) (bk:T1) {o:Obj} (h:o.isFreed=false):(rdF e bk o).isFreed=false:=by
 obtain ⟨c,d,dt,sl⟩:=o
 cases dt <;> first | rfl | exact h
theorem qkw {h:Heap} {a0 a1 a2:Nat} {f0 f1 f2:Obj→Obj} {o0 o1 o2:Obj} (n01:a0≠a1) (n02:a0≠a2) (n12:a1≠a2) (e0:h.get? a0=some o0) (e1:h.get? a1=some o1) (e2:h.get? a2=some o2) (g0:(f0 o0).isFreed=false) (g1:(f1 o1).isFreed=false) (g2:(f2 o2).isFreed=false) :
  (updL h [(a0,f0),(a1,f1),(a2,f2)]).get? a0=some (f0 o0)∧(updL h [(a0,f0),(a1,f1),(a2,f2)]).get? a1=some (f1 o1)∧(updL h [(a0,f0),(a1,f1),(a2,f2)]).get? a2=some (f2 o2):=by
 show (((h.update a0 f0).update a1 f1).update a2 f2).get? a0=_∧(((h.update a0 f0).update a1 f1).update a2 f2).get? a1=_∧(((h.update a0 f0).update a1 f1).update a2 f2).get? a2=_
 refine ⟨?_,?_,?_⟩
 ·rw [F9 _ _ (Ne.symm n02),F9 _ _ (Ne.symm n01)]
  exact G2 _ e0 g0
 ·rw [F9 _ _ (Ne.symm n12)]
  exact G2 _ ((F9 _ _ n01).trans e1) g1
 ·exact G2 _ ((F9 _ _ n12).trans ((F9 _ _ n02).trans e2)) g2
theorem qjh {A A2:Around} {s s':T2} {R:Result→T2→Prop} {env:Env} {outer:List Env} {ads:List Nat} {C C':Ctr} {L:Nat} {ν:Nat→Nat} {l:Bool→List (Nat×(Obj→Obj))}
  (hfr:A.frames=some (env::outer)) (hf:env.frame=some L) (P:Post C' ads ν s s') (hn':C'.news ads ν=[qbB .none (ν 4)]) (hkp:∀ads ν,C.kpost ads ν=[])
  (hl:∀b,∀p∈l b,p.1∈ads) (hads:∀a∈ads,∃o,s.heap.get? a=some o)
  (hR:∀{Q:Unit→T2→Prop},(∀b,Q () {s' with heap:=updL s'.heap (l b)})→wpAny (model prog w) A (readyFrames (env::outer)) Q (λe' s''=>R (.error e') s'') s')
  (hres:∀ν',C.res ads ν' = .done (.error (.ref (ν' 3)))) (hnews:∀ν',C.news ads ν'=[qbB (.ref (ν' 4)) (ν' 6),qh6 L ν'])
  (hpost:∀b ν',ν' 5=(if b=true then 1 else 0)→Objs (updL s'.heap (l b)) ads (C.post ads ν'))
  (hfin:∀ν s',Post C ads ν s s'→After prog w A2 R s' (C.res ads ν)) :
  wpAny (model prog w) A (leaving env (.ref (ν 3))) (λ_ s''=>R (.error (.ref (ν 3))) s'') (λe' s''=>R (.error e') s'') s':=by
 have hnw:=P.news
 rw [hn'] at hnw
 have he:s'.heap.get? (ν 3)=some (qbB .none (ν 4)):=hnw.1
 have hge:s.heap.objs.size≤ν 3:=P.ge (ν 3) (by rw [hn'];exact .head _)
 have hne:∀a∈ads,a≠ν 3:=λa ha e=>by
  obtain ⟨o,ho⟩:=hads a ha
  have hlt:a<s.heap.objs.size:=I0 ho
  lia
 have hr1:∀b,(updL s'.heap (l b)).get? (ν 3)=some (qbB .none (ν 4)):=λb=>(wM _ _ _ λp hp=>hne _ (hl b p hp)).trans he
 refine qno (hr:=λb=>updL s'.heap (l b)) hfr hf hR he hr1 rfl rfl λb pl hpl => ?_
 obtain ⟨g1,g2,g3,g4⟩:=qhI (L:=L) (pl:=pl) (hr1 b) rfl
 obtain ⟨ν',hν,hpl'⟩:=qr5 hpl (nu ((updL s'.heap (l b)).objs.size+1) s'.toks s'.gens.size [ν 3,(updL s'.heap (l b)).objs.size,if b=true then 1 else 0,ν 4])
 have e0:ν' 0=(updL s'.heap (l b)).objs.size+1:=hν 0 (by decide)
 have e1:ν' 1=s'.toks:=hν 1 (by decide)
 have e2:ν' 2=s'.gens.size:=hν 2 (by decide)
 have e3:ν' 3=ν 3:=hν 3 (by decide)
 have e4:ν' 4=(updL s'.heap (l b)).objs.size:=hν 4 (by decide)
 have e5:ν' 5=if b=true then 1 else 0:=hν 5 (by decide)
 have e6:ν' 6=ν 4:=hν 6 (by decide)
 have esz:(updL s'.heap (l b)).objs.size=s'.heap.objs.size:=qcY _ _
 have hz:=P.sz
 have hz0:=P.le0
 have z:=hfin ν' {s' with heap:=(((updL s'.heap (l b)).push (entryO .none (.ref L) L pl)).update (ν 3) (G9 (·.setIfInBounds 1 (.ref (updL s'.heap (l b)).objs.size)))).update (updL s'.heap (l b)).objs.size (G9 (·.setIfInBounds 3 .none))} ?_
 ·rw [hres,e3] at z
  exact z
 ·have hent:(entryO .none (.ref L) L pl).mapFields (·.setIfInBounds 3 .none)=qh6 L ν':=by
   unfold entryO
   rw [hpl']
   rfl
  have hpo:=hpost b ν' e5
  have hobs:∀{as:List Nat} {os:List Obj},(∀a∈as,a∈ads)→Objs (updL s'.heap (l b)) as os→Objs ((((updL s'.heap (l b)).push (entryO .none (.ref L) L pl)).update (ν 3) (G9 (·.setIfInBounds 1 (.ref (updL s'.heap (l b)).objs.size)))).update (updL s'.heap (l b)).objs.size (G9 (·.setIfInBounds 3 .none))) as os:=by
   intro as
   induction as with
   | nil=>intro os _ h;cases os <;> exact h
   | cons a as ih =>
    intro os ha h
    cases os with
    | nil=>exact h
    | cons o os=>exact ⟨g1 a o h.1 (hne a (ha a (.head _))),ih (λa' h'=>ha a' (.tail _ h')) h.2⟩
  refine ⟨hobs (λa ha=>ha) hpo,?_,?_,?_,?_,?_,?_,e1.symm,e2.symm,?_,?_,P.bare,P.dr,P.os,?_⟩
  ·rw [hnews]
   refine ⟨?_,?_,trivial⟩
   ·show Heap.get? _ (ν' 3)=_
    rw [e3,e4,e6]
    exact g2
   ·show Heap.get? _ (ν' 4)=_
    rw [e4,←hent]
    exact g3
  ·rw [hnews]
   show [ν' 3,ν' 4].Nodup
   rw [e3,e4]
   have:ν 3<s'.heap.objs.size:=I0 he
   refine F3.mpr ⟨λh => ?_,F3.mpr ⟨(λh=>nomatch h),F8⟩⟩
   rcases E2.mp h with h | h
   ·lia
   ·cases h
  ·rw [hnews]
   intro a ha
   rcases E2.mp ha with rfl | ha
   ·rw [e3];exact hge
   ·rcases E2.mp ha with rfl | ha
    ·rw [e4];lia
    ·cases ha
  ·intro x o hx hxa
   refine g1 x o ((wM _ _ _ λp hp e=>hxa (by rw [←e];exact hl b p hp)).trans (P.keep x o hx hxa)) λe => ?_
   have hlt:x<s.heap.objs.size:=I0 hx
   rw [e] at hlt
   exact absurd hlt (L9.mpr hge)
  ·rw [e0];lia
  ·rw [e0];exact g4
  ·rw [e2];have:=P.gs;have:=P.le2;lia
  ·exact P.gk
  ·rw [hkp];exact λk hk=>nomatch hk
theorem qjg (r:Bool) (p:T4) (m:BT) (lt:U1) (F B:Nat) (fd:T5):rdF (jF r fd F) (.ref B) (biF p m lt #[])=biF p m lt (rdI r B):=by
 cases r <;> rfl
theorem qp0 (fd:T5) (F L:Nat) (d:Data):rdF (envBounds fd F) (.ref L) (frD d #[])=frD d (rdB F L):=rfl
theorem qpZ (fd:T5) (F:Nat) (c:Nat→Nat) (bk:T1) (d:Data):rdF (envLaw fd F c) bk (frD d #[])=frD d (rdL bk c):=rfl
theorem qki (r:Bool) (ka kx kl kh kk la:U1) (x:Int) (xt lt:U1) (o1 o2 o3 o4 o5 o6 o7 o8 o9:Obj) (a0 a1 a2 a3 a4 a5 a6 a7 a8 a9:Nat) (N t0 gN:Nat) (a:FA) (x' y' z':Nat) :
  sumL 10 [11] (endT (yJ r (fdB w.params r) a0) prog w.params (ktOf w.params) 60 ((jn w.params (fdB w.params r) r ⟨ka,kx,kl,kh,kk,la,x,xt⟩ lt [o1,o2,o3,o4,o5,o6,o7,o8,o9]).code [a0,a1,a2,a3,a4,a5,a6,a7,a8,a9]) [a0,a1,a2,a3,a4,a5,a6,a7,a8,a9] ((jn w.params (fdB w.params r) r ⟨ka,kx,kl,kh,kk,la,x,xt⟩ lt [o1,o2,o3,o4,o5,o6,o7,o8,o9]).pre [a0,a1,a2,a3,a4,a5,a6,a7,a8,a9]) N t0 gN qae [] [] [] none a)
   = wH (jn w.params (fdB w.params r) r ⟨ka,kx,kl,kh,kk,la,x,xt⟩ lt [o1,o2,o3,o4,o5,o6,o7,o8,o9]) [a0,a1,a2,a3,a4,a5,a6,a7,a8,a9] (nug x' y' z' (adF [N+1,N+2] 0)) [] [] (endT (yJ r (fdB w.params r) a0) prog w.params (ktOf w.params) 60 ((jn w.params (fdB w.params r) r ⟨ka,kx,kl,kh,kk,la,x,xt⟩ lt [o1,o2,o3,o4,o5,o6,o7,o8,o9]).code [a0,a1,a2,a3,a4,a5,a6,a7,a8,a9]) [a0,a1,a2,a3,a4,a5,a6,a7,a8,a9] ((jn w.params (fdB w.params r) r ⟨ka,kx,kl,kh,kk,la,x,xt⟩ lt [o1,o2,o3,o4,o5,o6,o7,o8,o9]).pre [a0,a1,a2,a3,a4,a5,a6,a7,a8,a9]) N t0 gN qae [] [] [] none a):=by
 cases r
 ·exact qrB ka kx kl kh kk la x xt lt o1 o2 o3 o4 o5 o6 o7 o8 o9 a0 a1 a2 a3 a4 a5 a6 a7 a8 a9 N t0 gN a x' y' z'
 ·exact qo5 ka kx kl kh kk la x xt lt o1 o2 o3 o4 o5 o6 o7 o8 o9 a0 a1 a2 a3 a4 a5 a6 a7 a8 a9 N t0 gN a x' y' z'
theorem qbY {C:Ctr} {r:Bool} {m:BT} {lt:U1} {o1 o2 c0 c1 c2 c3 c4 c5 c6:Obj} {a0 a1 a2 a3 a4 a5 a6 a7 a8 a9:Nat} {outer:List Env} {l:Bool→List (Nat×(Obj→Obj))} {A:Around} {s:T2} {R:Result→T2→Prop}
  (h0:A.handled=none) (hd:A.depth+130*1<U0) (hu:A.units+260*1<cLine) (hkt:∀a o,ktOf w.params a=some o→s.heap.get? a=some o) (hnd:[a0,a1,a2,a3,a4,a5,a6,a7,a8,a9].Nodup) (hoff:∀a∈[a0,a1,a2,a3,a4,a5,a6,a7,a8,a9],ktOf w.params a=none)
  (hob:Objs s.heap [a0,a1,a2,a3,a4,a5,a6,a7,a8,a9] (biF w.params m lt #[]::[o1,o2,c0,c1,c2,c3,c4,c5,c6])) (hbare:∀x∈s.gens,x.bare=true)
  (hfr:A.frames=some outer) (hkp:∀ads ν,C.kpost ads ν=[]) (hl:∀b,∀p∈l b,p.1∈[a0,a1,a2,a3,a4,a5,a6,a7,a8,a9])
  (hR:∀(A':Around) (s':T2) (E:T1→T2→Prop) (Q:Unit→T2→Prop),Objs s'.heap [a0,a1,a2,a3,a4,a5,a6,a7,a8,a9] (biF w.params m lt #[]::[o1,o2,c0,c1,c2,c3,c4,c5,c6])→(∀b,Q () {s' with heap:=updL s'.heap (l b)})→wpAny (model prog w) A' (readyFrames (jF r (fdB w.params r) a0::outer)) Q E s')
  (hres:∀ν',C.res [a0,a1,a2,a3,a4,a5,a6,a7,a8,a9] ν' = .done (.error (.ref (ν' 3)))) (hnews:∀ν',C.news [a0,a1,a2,a3,a4,a5,a6,a7,a8,a9] ν'=[qbB (.ref (ν' 4)) (ν' 6),qh6 a0 ν'])
  (hpost:∀(s':T2) b ν',Objs s'.heap [a0,a1,a2,a3,a4,a5,a6,a7,a8,a9] (biF w.params m lt #[]::[o1,o2,c0,c1,c2,c3,c4,c5,c6])→ν' 5=(if b=true then 1 else 0)→Objs (updL s'.heap (l b)) [a0,a1,a2,a3,a4,a5,a6,a7,a8,a9] (C.post [a0,a1,a2,a3,a4,a5,a6,a7,a8,a9] ν'))
  (hfin:∀ν s',Post C [a0,a1,a2,a3,a4,a5,a6,a7,a8,a9] ν s s'→After prog w A R s' (C.res [a0,a1,a2,a3,a4,a5,a6,a7,a8,a9] ν)):codeAny (model prog w) A (wU r (fdB w.params r) a0) R s:=by
 obtain ⟨ka,kx,kl,kh,kk,la,x,xt⟩:=m
 cases hb:(fdB w.params r).body with
 | expr e =>
  have M:=qbe (yJ r (fdB w.params r) a0) 10 60 [11] qae [] (λ_ _ _=>[]) (λ_ _ _ _=>[]) (λa N t0 gN=>adF [N+1,N+2] 0) (λ_ _ _ _=>[]) (kt:=ktOf w.params) (C:=jn w.params (fdB w.params r) r ⟨ka,kx,kl,kh,kk,la,x,xt⟩ lt [o1,o2,c0,c1,c2,c3,c4,c5,c6]) (ads:=[a0,a1,a2,a3,a4,a5,a6,a7,a8,a9]) (lev:=0) (λ_ _=>rfl) (λads=>by show (wU r (fdB w.params r) _).isCaller=false;unfold wU;rw [hb];rfl) rfl (by decide) (by decide) (λ_ _ _=>B0) (λ_ _ _ _ _ h=>nomatch h) (λ_ _ _ _ _ h=>nomatch h) rfl (λN t0 gN a x' y' z'=>qki r ka kx kl kh kk la x xt lt o1 o2 c0 c1 c2 c3 c4 c5 c6 a0 a1 a2 a3 a4 a5 a6 a7 a8 a9 N t0 gN a x' y' z') A s (λ_ _=>True) h0 hd hu hkt hnd hoff hob (λk hk=>nomatch hk) hbare (λ_ _ _=>trivial) (λl h=>nomatch h)
  have e':yJ r (fdB w.params r) a0 = .unsupported "":=by unfold yJ;rw [hb]
  rw [e'] at M
  exact M.elim
 | stmts body =>
  have hcode:wU r (fdB w.params r) a0 = .func body (jF r (fdB w.params r) a0):=by unfold wU;rw [hb]
  rw [hcode]
  have M:=qbe (yJ r (fdB w.params r) a0) 10 60 [11] qae [] (λ_ _ _=>[]) (λ_ _ _ _=>[]) (λa N t0 gN=>adF [N+1,N+2] 0) (λ_ _ _ _=>[]) (kt:=ktOf w.params) (C:=jn w.params (fdB w.params r) r ⟨ka,kx,kl,kh,kk,la,x,xt⟩ lt [o1,o2,c0,c1,c2,c3,c4,c5,c6]) (ads:=[a0,a1,a2,a3,a4,a5,a6,a7,a8,a9]) (lev:=0) (λ_ _=>rfl) (λads=>by show (wU r (fdB w.params r) _).isCaller=false;unfold wU;rw [hb];rfl) rfl (by decide) (by decide) (λ_ _ _=>B0) (λ_ _ _ _ _ h=>nomatch h) (λ_ _ _ _ _ h=>nomatch h) rfl (λN t0 gN a x' y' z'=>qki r ka kx kl kh kk la x xt lt o1 o2 c0 c1 c2 c3 c4 c5 c6 a0 a1 a2 a3 a4 a5 a6 a7 a8 a9 N t0 gN a x' y' z') A s (qbk prog w A (.func body (jF r (fdB w.params r) a0)) (jF r (fdB w.params r) a0) R) h0 hd hu hkt hnd hoff hob (λk hk=>nomatch hk) hbare (λν s' P => ?_) (λl h=>nomatch h)
  ·have e':yJ r (fdB w.params r) a0=rawN body (jF r (fdB w.params r) a0):=by unfold yJ;rw [hb];exact congrFun (congrFun PySem.W.Fast.rawQ_eq.symm _) _
   have hc':(jn w.params (fdB w.params r) r ⟨ka,kx,kl,kh,kk,la,x,xt⟩ lt [o1,o2,c0,c1,c2,c3,c4,c5,c6]).code [a0,a1,a2,a3,a4,a5,a6,a7,a8,a9] = .func body (jF r (fdB w.params r) a0):=hcode
   rw [e',hc'] at M
   have hw:=jQ (.func body (jF r (fdB w.params r) a0)) rfl
   exact y_code _ _ _ _ _ _ (qkS (by show A.depth+_<_;lia) (by show A.units+_<_;lia) M)
  ·have hp:Objs s'.heap [a0,a1,a2,a3,a4,a5,a6,a7,a8,a9] (biF w.params ⟨ka,kx,kl,kh,kk,la,x,xt⟩ lt #[]::[o1,o2,c0,c1,c2,c3,c4,c5,c6]):=P.post
   refine wpOwn_of_wpAny (qjh (A:=A.under _) (outer:=outer) (L:=a0) (l:=l) ?_ (by cases r <;> rfl) P rfl hkp hl (λa ha=>hob.mem ha) (λh=>hR _ s' _ _ hp h) hres hnews (λb ν' e=>hpost s' b ν' hp e) hfin)
   show pushEnvs [jF r (fdB w.params r) a0] A.frames=_
   rw [hfr]
   rfl
theorem qdn {fdo fdl:T5} {r rd:Bool} {m:BT} {lt:U1} {d1 d2:Data} {sl2:Array (Option T1)} {c0 c1 c2 c3 c4 c5 c6:Obj} (hB:∀F,PlainEnv (envBounds fdo F)) (hL:∀F c,PlainEnv (envLaw fdl F c)):VC w 1 (qa1 w.params (fdB w.params r) fdo fdl r rd m lt d1 d2 sl2 [c0,c1,c2,c3,c4,c5,c6]):=by
 intro A ads s R h0 hd hu hkt hok hnd hoff hob hfz hbare hfin
 have hlen:=hob.len
 obtain ⟨hfr,_⟩:A.frames=some [envBounds fdo (adF ads 0 1),envLaw fdl (adF ads 0 2) (λi=>adF ads 0 (3+i))]∧_:=hok
 have hlen:ads.length=10:=by cases rd <;> exact hlen
 obtain ⟨a0,a1,a2,a3,a4,a5,a6,a7,a8,a9,rfl⟩:=qss hlen
 have n01:a0≠a1:=λe=>(F3.mp hnd).1 (e▸ .head _)
 have n02:a0≠a2:=λe=>(F3.mp hnd).1 (e▸ .tail _ (.head _))
 have n12:a1≠a2:=λe=>(F3.mp (F3.mp hnd).2).1 (e▸ .head _)
 have far:∀x∈[a3,a4,a5,a6,a7,a8,a9],a0≠x∧a1≠x∧a2≠x:=λx hx=>by
  have q1:=F3.mp hnd
  have q2:=F3.mp q1.2
  have q3:=F3.mp q2.2
  exact ⟨λe=>q1.1 (e▸ .tail _ (.tail _ hx)),λe=>q2.1 (e▸ .tail _ hx),λe=>q3.1 (e▸hx)⟩
 have hbi:(biF w.params m lt #[]).isFreed=false:=rfl
 cases rd with
 | true =>
  refine qbY (C:=qa1 w.params (fdB w.params r) fdo fdl r true m lt d1 d2 sl2 [c0,c1,c2,c3,c4,c5,c6]) (o1:=frD d1 (rdB a1 a2)) (o2:=frD d2 sl2) (l:=λ_=>[(a0,rdF (jF r (fdB w.params r) a0) (.ref a1))]) h0 hd hu hkt hnd hoff hob hbare hfr (λ_ _=>rfl) (λb p hp => ?_) (λA' s' E Q hp h => ?_) (λ_=>rfl) (λ_=>rfl) (λs' b ν' hp e5 => ?_) hfin
  ·rcases E2.mp hp with rfl | hp
   ·exact .head _
   ·cases hp
  ·refine ue (qjq r a0) (by cases r <;> rfl) (a1:=a1) rfl hp.1 rfl ?_
   refine qha (L:=a1) rfl (o:=frD d1 (rdB a1 a2)) ((F9 _ _ n01).trans hp.2.1) rfl ?_
   exact h true
  ·have g:∀x o,a0≠x→s'.heap.get? x=some o→(updL s'.heap [(a0,rdF (jF r (fdB w.params r) a0) (.ref a1))]).get? x=some o:=λx o hx ho=>(F9 _ _ hx).trans ho
   refine ⟨?_,g _ _ n01 hp.2.1,g _ _ n02 hp.2.2.1,g _ _ (far a3 (.head _)).1 hp.2.2.2.1,g _ _ (far a4 (.tail _ (.head _))).1 hp.2.2.2.2.1,g _ _ (far a5 (.tail _ (.tail _ (.head _)))).1 hp.2.2.2.2.2.1,g _ _ (far a6 (.tail _ (.tail _ (.tail _ (.head _))))).1 hp.2.2.2.2.2.2.1,g _ _ (far a7 (.tail _ (.tail _ (.tail _ (.tail _ (.head _)))))).1 hp.2.2.2.2.2.2.2.1,g _ _ (far a8 (.tail _ (.tail _ (.tail _ (.tail _ (.tail _ (.head _))))))).1 hp.2.2.2.2.2.2.2.2.1,g _ _ (far a9 (.tail _ (.tail _ (.tail _ (.tail _ (.tail _ (.tail _ (.head _)))))))).1 hp.2.2.2.2.2.2.2.2.2.1,trivial⟩
   have:=G2 (rdF (jF r (fdB w.params r) a0) (.ref a1)) hp.1 (qaP _ _ hbi)
   rw [qjg] at this
   exact this
 | false =>
  refine qbY (C:=qa1 w.params (fdB w.params r) fdo fdl r false m lt d1 d2 sl2 [c0,c1,c2,c3,c4,c5,c6]) (o1:=frD d1 #[]) (o2:=frD d2 #[]) (l:=λb=>[(a0,rdF (jF r (fdB w.params r) a0) (.ref a1)),(a1,rdF (envBounds fdo a1) (.ref a2)),(a2,rdF (envLaw fdl a2 (λi=>adF [a0,a1,a2,a3,a4,a5,a6,a7,a8,a9] 0 (3+i))) (if b=true then .notImplemented else .none))]) h0 hd hu hkt hnd hoff hob hbare hfr (λ_ _=>rfl) (λb p hp => ?_) (λA' s' E Q hp h => ?_) (λ_=>rfl) (λ_=>rfl) (λs' b ν' hp e5 => ?_) hfin
  ·rcases E2.mp hp with rfl | hp
   ·exact .head _
   ·rcases E2.mp hp with rfl | hp
    ·exact .tail _ (.head _)
    ·rcases E2.mp hp with rfl | hp
     ·exact .tail _ (.tail _ (.head _))
     ·cases hp
  ·refine ue (qjq r a0) (by cases r <;> rfl) (a1:=a1) rfl hp.1 rfl ?_
   refine ue (hB a1) rfl (a1:=a2) rfl (o:=frD d1 #[]) ((F9 _ _ n01).trans hp.2.1) rfl ?_
   refine qhb (hL a2 _) rfl (o:=frD d2 #[]) ((F9 _ _ n12).trans ((F9 _ _ n02).trans hp.2.2.1)) rfl λb => ?_
   exact h b
  ·have e2:=hp.2.1
   have e3:=hp.2.2.1
   have f1:=(R4.mp e2).2
   have f2:=(R4.mp e3).2
   have g:∀x o,a0≠x∧a1≠x∧a2≠x→s'.heap.get? x=some o→(updL s'.heap [(a0,rdF (jF r (fdB w.params r) a0) (.ref a1)),(a1,rdF (envBounds fdo a1) (.ref a2)),(a2,rdF (envLaw fdl a2 (λi=>adF [a0,a1,a2,a3,a4,a5,a6,a7,a8,a9] 0 (3+i))) (if b=true then .notImplemented else .none))]).get? x=some o:=λx o hx ho =>
    (wM _ _ _ λp hp=>by
     rcases E2.mp hp with rfl | hp
     ·exact hx.1
     ·rcases E2.mp hp with rfl | hp
      ·exact hx.2.1
      ·rcases E2.mp hp with rfl | hp
       ·exact hx.2.2
       ·cases hp).trans ho
   have eb:bkV (ν' 5)=(if b=true then .notImplemented else .none):=by rw [e5];cases b <;> rfl
   have u:=qkw (f0:=rdF (jF r (fdB w.params r) a0) (.ref a1)) (f1:=rdF (envBounds fdo a1) (.ref a2)) (f2:=rdF (envLaw fdl a2 (λi=>adF [a0,a1,a2,a3,a4,a5,a6,a7,a8,a9] 0 (3+i))) (if b=true then .notImplemented else .none)) n01 n02 n12 hp.1 e2 e3 (qaP _ _ hbi) (qaP _ _ f1) (qaP _ _ f2)
   rw [qjg,qp0,qpZ] at u
   have u3:=u.2.2.trans (congrArg (λv=>some (frD d2 (rdL v (λi=>adF [a0,a1,a2,a3,a4,a5,a6,a7,a8,a9] 0 (3+i))))) eb.symm)
   exact ⟨u.1,u.2.1,u3,g _ _ (far a3 (.head _)) hp.2.2.2.1,g _ _ (far a4 (.tail _ (.head _))) hp.2.2.2.2.1,g _ _ (far a5 (.tail _ (.tail _ (.head _)))) hp.2.2.2.2.2.1,g _ _ (far a6 (.tail _ (.tail _ (.tail _ (.head _))))) hp.2.2.2.2.2.2.1,g _ _ (far a7 (.tail _ (.tail _ (.tail _ (.tail _ (.head _)))))) hp.2.2.2.2.2.2.2.1,g _ _ (far a8 (.tail _ (.tail _ (.tail _ (.tail _ (.tail _ (.head _))))))) hp.2.2.2.2.2.2.2.2.1,g _ _ (far a9 (.tail _ (.tail _ (.tail _ (.tail _ (.tail _ (.tail _ (.head _)))))))) hp.2.2.2.2.2.2.2.2.2.1,trivial⟩
end
section
variable {w:T3}
noncomputable def cmpC (id:String) (a b:Int) (r:Bool) (c:Code):Ctr:=zW id ⟨[.int a (qe c 0), .int b (qe c 1)],[]⟩ λ_ => .bool r
noncomputable def yA (r:Bool) (x lo hi res:Int) (c:Code):Ctr:=qfy r (uF (uE c 0)) x (qe c 1) lo (qe c 2) hi (qe c 3) res
noncomputable def j0 (r:Bool) (x res:Int) (c:Code):Ctr:=qlW r (uF (uE c 0)) x (qe c 1) res
noncomputable def qr2:U2:=⟨#[108,101,102,116]⟩
noncomputable def qpG:U2:=⟨#[114,105,103,104,116]⟩
noncomputable def oAt (os:List Obj) (j:Nat):Obj:=match lGet os j with
 | some o=>o
 | none=>default
noncomputable def tkK (v:T1):U1:=match v with
 | .str _ t=>t
 | .int _ t=>t
 | .bytes _ t=>t
 | _=>0
noncomputable def z7 (es:List DictEntry) (j:Nat):DictEntry:=match lGet es j with
 | some e=>e
 | none=>⟨0, .none, .none⟩
noncomputable def z6 (o:Obj):List DictEntry:=match o.data with
 | .dict es _=>es.toList
 | _=>[]
noncomputable def qs7 (o:Obj):BT:=⟨tkK (z7 (z6 o) 0).key,tkK (z7 (z6 o) 1).key,tkK (z7 (z6 o) 2).key,tkK (z7 (z6 o) 3).key,tkK (z7 (z6 o) 4).key,tkK (z7 (z6 o) 0).val,70,tkK (z7 (z6 o) 1).val⟩
noncomputable def yq (p:T4) (fd fdo fdl:T5) (r rd:Bool) (os:List Obj):Ctr :=
 qa1 p fd fdo fdl r rd (qs7 (oAt os 0)) (tkK (z7 (z6 (oAt os 0)) 2).val) (oAt os 1).data (oAt os 2).data (oAt os 2).slots [oAt os 3,oAt os 4,oAt os 5,oAt os 6,oAt os 7,oAt os 8,oAt os 9]
noncomputable def vR (fdl:T5) (la:U1) (r0:Int) (t0':U1) (r1:Int) (t1':U1) (rv:Nat) (d2:Data) (c0 c1 c2 c3 c4 c5 c6:Obj):Ctr where
 code ads := .call (.ref 284) ⟨[.bytes zz la, .ref (adF ads 0 0)],[]⟩
 ok _:=[]
 pre _:=[qd [.int r0 t0', .int r1 t1'] rv,frD d2 #[],c0,c1,c2,c3,c4,c5,c6]
 res _ ν := .done (.ok (.ret (.ref (ν 3))))
 post ads ν:=[qd [.int r0 t0', .int r1 t1'] rv,frD d2 (rdL (bkV (ν 6)) (λi=>adF ads 0 (2+i))),c0,c1,c2,c3,c4,c5,c6]
 news _ ν:=[qd [.str qr2 (ν 4), .str qpG (ν 5)] 2]
 frz:=[]
 frs:=some λads=>[envLaw fdl (adF ads 0 1) (λi=>adF ads 0 (2+i))]
theorem qoK (kn kw kp:U1) (num:Int) (tn tw:U1) (a0 a1 a2:Nat):RunOk w (wq w.params (fdD w.params) 1 kn kw kp num tn tw) 3 1502 [a0,a1,a2] [6,10,17,21,28,35,39,46,50,57] (hx 0x13fd0748e3cd2f3dd03bd2475e38d2f39d037d1275e35d2f36d034d2475e31d2f32d030d2475e2dd2f2ed02cd1275e2ad2f2bd029d24bde26d2f27d025d2448e22d2f23d021d1248e1fd2f20d01ed2475e1bd2f1cd01ad1275e18d2f19d017d2475e14d2f15d013d1948e90a48e10d2f11d00fd0050f55f5000dd2f0ed00cd192de60a2de09d2f0ad008d0020f25f63f21000d0010f440005d006d004d0003d0f01d5f02d) [] [(cX 5 (λc os=>qy w.params (fdD w.params) a0 0 (qF [] (qx os 4)) 0 0) [5,3,2,4]),(cX 1 (λc os=>qL (psL [] (qp (oAt os 0))) 0 0 (qe c 1) false) [4]),(cX 12 (λc os=>qy w.params (fdD w.params) a0 0 (qF [(0,0)] (qx os 4)) 1 0) [9,7,2,8,6]),(cX 1 (λc os=>qL (psL [(0,0)] (qp (oAt os 0))) 1 1 (qe c 1) false) [8]),(cX 12 (λc os=>qy w.params (fdD w.params) a0 0 (qF [(0,0),(1,2)] (qx os 4)) 2 0) [13,11,2,12,6,10]),(cX 1 (λc os=>qL (psL [(0,0),(1,2)] (qp (oAt os 0))) 2 2 (qe c 1) true) [12]),(cX 6 (λc os=>qy w.params (fdD w.params) a0 0 (qF [(0,0),(1,2)] (qx os 4)) 2 0) [16,14,2,15,6,10]),(cX 1 (λc os=>qL (psL [(0,0),(1,2)] (qp (oAt os 0))) 2 3 (qe c 1) false) [15]),(cX 12 (λc os=>qy w.params (fdD w.params) a0 0 (qF [(0,0),(1,2),(3,5)] (qx os 4)) 3 0) [20,18,2,19,6,10,17]),(cX 1 (λc os=>qL (psL [(0,0),(1,2),(3,5)] (qp (oAt os 0))) 3 4 (qe c 1) false) [19]),(cX 12 (λc os=>qy w.params (fdD w.params) a0 0 (qF [(0,0),(1,2),(3,5),(4,7)] (qx os 4)) 4 0) [24,22,2,23,6,10,17,21]),(cX 1 (λc os=>qL (psL [(0,0),(1,2),(3,5),(4,7)] (qp (oAt os 0))) 4 5 (qe c 1) true) [23]),(cX 6 (λc os=>qy w.params (fdD w.params) a0 0 (qF [(0,0),(1,2),(3,5),(4,7)] (qx os 4)) 4 0) [27,25,2,26,6,10,17,21]),(cX 1 (λc os=>qL (psL [(0,0),(1,2),(3,5),(4,7)] (qp (oAt os 0))) 4 6 (qe c 1) false) [26]),(cX 12 (λc os=>qy w.params (fdD w.params) a0 0 (qF [(0,0),(1,2),(3,5),(4,7),(6,10)] (qx os 4)) 5 0) [31,29,2,30,6,10,17,21,28]),(cX 1 (λc os=>qL (psL [(0,0),(1,2),(3,5),(4,7),(6,10)] (qp (oAt os 0))) 5 7 (qe c 1) true) [30]),(cX 6 (λc os=>qy w.params (fdD w.params) a0 0 (qF [(0,0),(1,2),(3,5),(4,7),(6,10)] (qx os 4)) 5 0) [34,32,2,33,6,10,17,21,28]),(cX 1 (λc os=>qL (psL [(0,0),(1,2),(3,5),(4,7),(6,10)] (qp (oAt os 0))) 5 8 (qe c 1) false) [33]),(cX 12 (λc os=>qy w.params (fdD w.params) a0 0 (qF [(0,0),(1,2),(3,5),(4,7),(6,10),(8,13)] (qx os 4)) 6 0) [38,36,2,37,6,10,17,21,28,35]),(cX 1 (λc os=>qL (psL [(0,0),(1,2),(3,5),(4,7),(6,10),(8,13)] (qp (oAt os 0))) 6 9 (qe c 1) false) [37]),(cX 12 (λc os=>qy w.params (fdD w.params) a0 0 (qF [(0,0),(1,2),(3,5),(4,7),(6,10),(8,13),(9,15)] (qx os 4)) 7 0) [42,40,2,41,6,10,17,21,28,35,39]),(cX 1 (λc os=>qL (psL [(0,0),(1,2),(3,5),(4,7),(6,10),(8,13),(9,15)] (qp (oAt os 0))) 7 10 (qe c 1) true) [41]),(cX 6 (λc os=>qy w.params (fdD w.params) a0 0 (qF [(0,0),(1,2),(3,5),(4,7),(6,10),(8,13),(9,15)] (qx os 4)) 7 0) [45,43,2,44,6,10,17,21,28,35,39]),(cX 1 (λc os=>qL (psL [(0,0),(1,2),(3,5),(4,7),(6,10),(8,13),(9,15)] (qp (oAt os 0))) 7 11 (qe c 1) false) [44]),(cX 12 (λc os=>qy w.params (fdD w.params) a0 0 (qF [(0,0),(1,2),(3,5),(4,7),(6,10),(8,13),(9,15),(11,18)] (qx os 4)) 8 0) [49,47,2,48,6,10,17,21,28,35,39,46]),(cX 1 (λc os=>qL (psL [(0,0),(1,2),(3,5),(4,7),(6,10),(8,13),(9,15),(11,18)] (qp (oAt os 0))) 8 12 (qe c 1) false) [48]),(cX 12 (λc os=>qy w.params (fdD w.params) a0 0 (qF [(0,0),(1,2),(3,5),(4,7),(6,10),(8,13),(9,15),(11,18),(12,20)] (qx os 4)) 9 0) [53,51,2,52,6,10,17,21,28,35,39,46,50]),(cX 1 (λc os=>qL (psL [(0,0),(1,2),(3,5),(4,7),(6,10),(8,13),(9,15),(11,18),(12,20)] (qp (oAt os 0))) 9 13 (qe c 1) true) [52]),(cX 6 (λc os=>qy w.params (fdD w.params) a0 0 (qF [(0,0),(1,2),(3,5),(4,7),(6,10),(8,13),(9,15),(11,18),(12,20)] (qx os 4)) 9 0) [56,54,2,55,6,10,17,21,28,35,39,46,50]),(cX 1 (λc os=>qL (psL [(0,0),(1,2),(3,5),(4,7),(6,10),(8,13),(9,15),(11,18),(12,20)] (qp (oAt os 0))) 9 14 (qe c 1) false) [55]),(cX 12 (λc os=>qy w.params (fdD w.params) a0 0 (qF [(0,0),(1,2),(3,5),(4,7),(6,10),(8,13),(9,15),(11,18),(12,20),(14,23)] (qx os 4)) 10 0) [60,58,2,59,6,10,17,21,28,35,39,46,50,57]),(cX 1 (λc os=>qL (psL [(0,0),(1,2),(3,5),(4,7),(6,10),(8,13),(9,15),(11,18),(12,20),(14,23)] (qp (oAt os 0))) 10 15 (qe c 1) true) [59])] (λa N t0 gN=>[]) (λa N t0 gN=>[a.c 1 0+0,a.c 3 0+0,a.c 7 0+0,a.c 9 0+0,a.c 13 0+0,a.c 17 0+0,a.c 19 0+0,a.c 23 0+0,a.c 25 0+0,a.c 29 0+0,t0+0,a.c 1 1+3,a.c 1 1+4,a.c 3 1+3,a.c 5 1+0,a.c 7 1+3,a.c 7 1+4,a.c 9 1+3,a.c 11 1+0,a.c 13 1+3,a.c 15 1+0,a.c 17 1+3,a.c 17 1+4,a.c 19 1+3,a.c 21 1+0,a.c 23 1+3,a.c 23 1+4,a.c 25 1+3,a.c 27 1+0,a.c 29 1+3,t0+1,a.c 29 1+4]):=λN t0 gN a x' y' z'=>by
 kernel_rfl
theorem qlI {kn kw kp:U1} {num:Int} {tn tw:U1}:VC w 2 (wq w.params (fdD w.params) 1 kn kw kp num tn tw):=by
 refine qu 3 λads hl hok => ?_
 obtain ⟨a0,a1,a2,rfl⟩:=qh1 hl
 exact (C2 (qoK kn kw kp num tn tw a0 a1 a2) (qa (λc os=>qh) (qa (λc os=>qj ((qo (λb=>b==0) _ _).trans (by decide))) (qa (λc os=>qh) (qa (λc os=>qj ((qo (λb=>b==1) _ _).trans (by decide))) (qa (λc os=>qh) (qa (λc os=>qj ((qo (λb=>b==2) _ _).trans (by decide))) (qa (λc os=>qh) (qa (λc os=>qj ((qo (λb=>b==3) _ _).trans (by decide))) (qa (λc os=>qh) (qa (λc os=>qj ((qo (λb=>b==4) _ _).trans (by decide))) (qa (λc os=>qh) (qa (λc os=>qj ((qo (λb=>b==5) _ _).trans (by decide))) (qa (λc os=>qh) (qa (λc os=>qj ((qo (λb=>b==6) _ _).trans (by decide))) (qa (λc os=>qh) (qa (λc os=>qj ((qo (λb=>b==7) _ _).trans (by decide))) (qa (λc os=>qh) (qa (λc os=>qj ((qo (λb=>b==8) _ _).trans (by decide))) (qa (λc os=>qh) (qa (λc os=>qj ((qo (λb=>b==9) _ _).trans (by decide))) (qa (λc os=>qh) (qa (λc os=>qj ((qo (λb=>b==10) _ _).trans (by decide))) (qa (λc os=>qh) (qa (λc os=>qj ((qo (λb=>b==11) _ _).trans (by decide))) (qa (λc os=>qh) (qa (λc os=>qj ((qo (λb=>b==12) _ _).trans (by decide))) (qa (λc os=>qh) (qa (λc os=>qj ((qo (λb=>b==13) _ _).trans (by decide))) (qa (λc os=>qh) (qa (λc os=>qj ((qo (λb=>b==14) _ _).trans (by decide))) (qa (λc os=>qh) (qa (λc os=>qj ((qo (λb=>b==15) _ _).trans (by decide))) (B0))))))))))))))))))))))))))))))))) (λ_ _ _ _ _ h=>nomatch h))
theorem qoJ (kn kw kp:U1) (num:Int) (tn tw:U1) (a0 a1 a2:Nat):RunOk w (wq w.params (fdD w.params) 2 kn kw kp num tn tw) 3 1610 [a0,a1,a2] [6,10,14,21,25,32,36,40,47,51,58,62] (hx 0x141d1975e3dd2f3ed03cd2475e39d2f3ad038d1275e36d2f37d035d2475e32d2f33d031d24a2e2ed2f2fd02dd12a2e2bd2f2cd02ad242de27d2f28d026d2475e23d2f24d022d2475e1fd2f20d01ed1275e1cd2f1dd01bd2475e18d2f19d017d1948e90a48e14d2f15d013d0050f55f50011d2f12d010d242de0dd2f0ed00cd192de60a2de09d2f0ad008d0020f25f63f21000d0010f440005d006d004d0003d0f01d5f02d) [] [(cX 5 (λc os=>qy w.params (fdD w.params) a0 0 (qF [] (qx os 4)) 0 0) [5,3,2,4]),(cX 1 (λc os=>qL (psL [] (qp (oAt os 0))) 0 0 (qe c 1) false) [4]),(cX 12 (λc os=>qy w.params (fdD w.params) a0 0 (qF [(0,0)] (qx os 4)) 1 0) [9,7,2,8,6]),(cX 1 (λc os=>qL (psL [(0,0)] (qp (oAt os 0))) 1 1 (qe c 1) false) [8]),(cX 12 (λc os=>qy w.params (fdD w.params) a0 0 (qF [(0,0),(1,3)] (qx os 4)) 2 0) [13,11,2,12,6,10]),(cX 1 (λc os=>qL (psL [(0,0),(1,3)] (qp (oAt os 0))) 2 2 (qe c 1) false) [12]),(cX 12 (λc os=>qy w.params (fdD w.params) a0 0 (qF [(0,0),(1,3),(2,6)] (qx os 4)) 3 0) [17,15,2,16,6,10,14]),(cX 1 (λc os=>qL (psL [(0,0),(1,3),(2,6)] (qp (oAt os 0))) 3 3 (qe c 1) true) [16]),(cX 6 (λc os=>qy w.params (fdD w.params) a0 0 (qF [(0,0),(1,3),(2,6)] (qx os 4)) 3 0) [20,18,2,19,6,10,14]),(cX 1 (λc os=>qL (psL [(0,0),(1,3),(2,6)] (qp (oAt os 0))) 3 4 (qe c 1) false) [19]),(cX 12 (λc os=>qy w.params (fdD w.params) a0 0 (qF [(0,0),(1,3),(2,6),(4,10)] (qx os 4)) 4 0) [24,22,2,23,6,10,14,21]),(cX 1 (λc os=>qL (psL [(0,0),(1,3),(2,6),(4,10)] (qp (oAt os 0))) 4 5 (qe c 1) false) [23]),(cX 12 (λc os=>qy w.params (fdD w.params) a0 0 (qF [(0,0),(1,3),(2,6),(4,10),(5,13)] (qx os 4)) 5 0) [28,26,2,27,6,10,14,21,25]),(cX 1 (λc os=>qL (psL [(0,0),(1,3),(2,6),(4,10),(5,13)] (qp (oAt os 0))) 5 6 (qe c 1) true) [27]),(cX 6 (λc os=>qy w.params (fdD w.params) a0 0 (qF [(0,0),(1,3),(2,6),(4,10),(5,13)] (qx os 4)) 5 0) [31,29,2,30,6,10,14,21,25]),(cX 1 (λc os=>qL (psL [(0,0),(1,3),(2,6),(4,10),(5,13)] (qp (oAt os 0))) 5 7 (qe c 1) false) [30]),(cX 12 (λc os=>qy w.params (fdD w.params) a0 0 (qF [(0,0),(1,3),(2,6),(4,10),(5,13),(7,17)] (qx os 4)) 6 0) [35,33,2,34,6,10,14,21,25,32]),(cX 1 (λc os=>qL (psL [(0,0),(1,3),(2,6),(4,10),(5,13),(7,17)] (qp (oAt os 0))) 6 8 (qe c 1) false) [34]),(cX 12 (λc os=>qy w.params (fdD w.params) a0 0 (qF [(0,0),(1,3),(2,6),(4,10),(5,13),(7,17),(8,20)] (qx os 4)) 7 0) [39,37,2,38,6,10,14,21,25,32,36]),(cX 1 (λc os=>qL (psL [(0,0),(1,3),(2,6),(4,10),(5,13),(7,17),(8,20)] (qp (oAt os 0))) 7 9 (qe c 1) false) [38]),(cX 12 (λc os=>qy w.params (fdD w.params) a0 0 (qF [(0,0),(1,3),(2,6),(4,10),(5,13),(7,17),(8,20),(9,23)] (qx os 4)) 8 0) [43,41,2,42,6,10,14,21,25,32,36,40]),(cX 1 (λc os=>qL (psL [(0,0),(1,3),(2,6),(4,10),(5,13),(7,17),(8,20),(9,23)] (qp (oAt os 0))) 8 10 (qe c 1) true) [42]),(cX 6 (λc os=>qy w.params (fdD w.params) a0 0 (qF [(0,0),(1,3),(2,6),(4,10),(5,13),(7,17),(8,20),(9,23)] (qx os 4)) 8 0) [46,44,2,45,6,10,14,21,25,32,36,40]),(cX 1 (λc os=>qL (psL [(0,0),(1,3),(2,6),(4,10),(5,13),(7,17),(8,20),(9,23)] (qp (oAt os 0))) 8 11 (qe c 1) false) [45]),(cX 12 (λc os=>qy w.params (fdD w.params) a0 0 (qF [(0,0),(1,3),(2,6),(4,10),(5,13),(7,17),(8,20),(9,23),(11,27)] (qx os 4)) 9 0) [50,48,2,49,6,10,14,21,25,32,36,40,47]),(cX 1 (λc os=>qL (psL [(0,0),(1,3),(2,6),(4,10),(5,13),(7,17),(8,20),(9,23),(11,27)] (qp (oAt os 0))) 9 12 (qe c 1) false) [49]),(cX 12 (λc os=>qy w.params (fdD w.params) a0 0 (qF [(0,0),(1,3),(2,6),(4,10),(5,13),(7,17),(8,20),(9,23),(11,27),(12,30)] (qx os 4)) 10 0) [54,52,2,53,6,10,14,21,25,32,36,40,47,51]),(cX 1 (λc os=>qL (psL [(0,0),(1,3),(2,6),(4,10),(5,13),(7,17),(8,20),(9,23),(11,27),(12,30)] (qp (oAt os 0))) 10 13 (qe c 1) true) [53]),(cX 6 (λc os=>qy w.params (fdD w.params) a0 0 (qF [(0,0),(1,3),(2,6),(4,10),(5,13),(7,17),(8,20),(9,23),(11,27),(12,30)] (qx os 4)) 10 0) [57,55,2,56,6,10,14,21,25,32,36,40,47,51]),(cX 1 (λc os=>qL (psL [(0,0),(1,3),(2,6),(4,10),(5,13),(7,17),(8,20),(9,23),(11,27),(12,30)] (qp (oAt os 0))) 10 14 (qe c 1) false) [56]),(cX 12 (λc os=>qy w.params (fdD w.params) a0 0 (qF [(0,0),(1,3),(2,6),(4,10),(5,13),(7,17),(8,20),(9,23),(11,27),(12,30),(14,34)] (qx os 4)) 11 0) [61,59,2,60,6,10,14,21,25,32,36,40,47,51,58]),(cX 1 (λc os=>qL (psL [(0,0),(1,3),(2,6),(4,10),(5,13),(7,17),(8,20),(9,23),(11,27),(12,30),(14,34)] (qp (oAt os 0))) 11 15 (qe c 1) false) [60])] (λa N t0 gN=>[]) (λa N t0 gN=>[a.c 1 0+0,a.c 3 0+0,a.c 5 0+0,a.c 9 0+0,a.c 11 0+0,a.c 15 0+0,a.c 17 0+0,a.c 19 0+0,a.c 23 0+0,a.c 25 0+0,a.c 29 0+0,a.c 31 0+0,t0+0,a.c 1 1+3,a.c 1 1+4,a.c 3 1+3,a.c 3 1+4,a.c 5 1+3,a.c 7 1+0,a.c 9 1+3,a.c 9 1+4,a.c 11 1+3,a.c 13 1+0,a.c 15 1+3,a.c 15 1+4,a.c 17 1+3,a.c 17 1+4,a.c 19 1+3,a.c 21 1+0,a.c 23 1+3,a.c 23 1+4,a.c 25 1+3,a.c 27 1+0,a.c 29 1+3,a.c 29 1+4,a.c 31 1+3,t0+1,a.c 29 1+4]):=λN t0 gN a x' y' z'=>by
 kernel_rfl
theorem qlH {kn kw kp:U1} {num:Int} {tn tw:U1}:VC w 2 (wq w.params (fdD w.params) 2 kn kw kp num tn tw):=by
 refine qu 3 λads hl hok => ?_
 obtain ⟨a0,a1,a2,rfl⟩:=qh1 hl
 exact (C2 (qoJ kn kw kp num tn tw a0 a1 a2) (qa (λc os=>qh) (qa (λc os=>qj ((qo (λb=>b==0) _ _).trans (by decide))) (qa (λc os=>qh) (qa (λc os=>qj ((qo (λb=>b==1) _ _).trans (by decide))) (qa (λc os=>qh) (qa (λc os=>qj ((qo (λb=>b==2) _ _).trans (by decide))) (qa (λc os=>qh) (qa (λc os=>qj ((qo (λb=>b==3) _ _).trans (by decide))) (qa (λc os=>qh) (qa (λc os=>qj ((qo (λb=>b==4) _ _).trans (by decide))) (qa (λc os=>qh) (qa (λc os=>qj ((qo (λb=>b==5) _ _).trans (by decide))) (qa (λc os=>qh) (qa (λc os=>qj ((qo (λb=>b==6) _ _).trans (by decide))) (qa (λc os=>qh) (qa (λc os=>qj ((qo (λb=>b==7) _ _).trans (by decide))) (qa (λc os=>qh) (qa (λc os=>qj ((qo (λb=>b==8) _ _).trans (by decide))) (qa (λc os=>qh) (qa (λc os=>qj ((qo (λb=>b==9) _ _).trans (by decide))) (qa (λc os=>qh) (qa (λc os=>qj ((qo (λb=>b==10) _ _).trans (by decide))) (qa (λc os=>qh) (qa (λc os=>qj ((qo (λb=>b==11) _ _).trans (by decide))) (qa (λc os=>qh) (qa (λc os=>qj ((qo (λb=>b==12) _ _).trans (by decide))) (qa (λc os=>qh) (qa (λc os=>qj ((qo (λb=>b==13) _ _).trans (by decide))) (qa (λc os=>qh) (qa (λc os=>qj ((qo (λb=>b==14) _ _).trans (by decide))) (qa (λc os=>qh) (qa (λc os=>qj ((qo (λb=>b==15) _ _).trans (by decide))) (B0))))))))))))))))))))))))))))))))) (λ_ _ _ _ _ h=>nomatch h))
theorem qoI (kn kw kp:U1) (num:Int) (tn tw:U1) (a0 a1 a2:Nat):RunOk w (wq w.params (fdD w.params) 3 kn kw kp num tn tw) 3 1664 [a0,a1,a2] [6,10,14,18,25,29,33,40,44,48,55,59,63] (hx 0x142d192de3ed2f3fd03dd2475e3ad2f3bd039d24a2e36d2f37d035d12a2e33d2f34d032d242de2fd2f30d02ed2475e2bd2f2cd02ad24a2e27d2f28d026d12a2e24d2f25d023d242de20d2f21d01fd2475e1cd2f1dd01bd1948e90a48e18d2f19d017d0050f55f50015d2f16d014d242de11d2f12d010d242de0dd2f0ed00cd192de60a2de09d2f0ad008d0020f25f63f21000d0010f440005d006d004d0003d0f01d5f02d) [] [(cX 5 (λc os=>qy w.params (fdD w.params) a0 0 (qF [] (qx os 4)) 0 0) [5,3,2,4]),(cX 1 (λc os=>qL (psL [] (qp (oAt os 0))) 0 0 (qe c 1) false) [4]),(cX 12 (λc os=>qy w.params (fdD w.params) a0 0 (qF [(0,0)] (qx os 4)) 1 0) [9,7,2,8,6]),(cX 1 (λc os=>qL (psL [(0,0)] (qp (oAt os 0))) 1 1 (qe c 1) false) [8]),(cX 12 (λc os=>qy w.params (fdD w.params) a0 0 (qF [(0,0),(1,4)] (qx os 4)) 2 0) [13,11,2,12,6,10]),(cX 1 (λc os=>qL (psL [(0,0),(1,4)] (qp (oAt os 0))) 2 2 (qe c 1) false) [12]),(cX 12 (λc os=>qy w.params (fdD w.params) a0 0 (qF [(0,0),(1,4),(2,8)] (qx os 4)) 3 0) [17,15,2,16,6,10,14]),(cX 1 (λc os=>qL (psL [(0,0),(1,4),(2,8)] (qp (oAt os 0))) 3 3 (qe c 1) false) [16]),(cX 12 (λc os=>qy w.params (fdD w.params) a0 0 (qF [(0,0),(1,4),(2,8),(3,12)] (qx os 4)) 4 0) [21,19,2,20,6,10,14,18]),(cX 1 (λc os=>qL (psL [(0,0),(1,4),(2,8),(3,12)] (qp (oAt os 0))) 4 4 (qe c 1) true) [20]),(cX 6 (λc os=>qy w.params (fdD w.params) a0 0 (qF [(0,0),(1,4),(2,8),(3,12)] (qx os 4)) 4 0) [24,22,2,23,6,10,14,18]),(cX 1 (λc os=>qL (psL [(0,0),(1,4),(2,8),(3,12)] (qp (oAt os 0))) 4 5 (qe c 1) false) [23]),(cX 12 (λc os=>qy w.params (fdD w.params) a0 0 (qF [(0,0),(1,4),(2,8),(3,12),(5,17)] (qx os 4)) 5 0) [28,26,2,27,6,10,14,18,25]),(cX 1 (λc os=>qL (psL [(0,0),(1,4),(2,8),(3,12),(5,17)] (qp (oAt os 0))) 5 6 (qe c 1) false) [27]),(cX 12 (λc os=>qy w.params (fdD w.params) a0 0 (qF [(0,0),(1,4),(2,8),(3,12),(5,17),(6,21)] (qx os 4)) 6 0) [32,30,2,31,6,10,14,18,25,29]),(cX 1 (λc os=>qL (psL [(0,0),(1,4),(2,8),(3,12),(5,17),(6,21)] (qp (oAt os 0))) 6 7 (qe c 1) false) [31]),(cX 12 (λc os=>qy w.params (fdD w.params) a0 0 (qF [(0,0),(1,4),(2,8),(3,12),(5,17),(6,21),(7,25)] (qx os 4)) 7 0) [36,34,2,35,6,10,14,18,25,29,33]),(cX 1 (λc os=>qL (psL [(0,0),(1,4),(2,8),(3,12),(5,17),(6,21),(7,25)] (qp (oAt os 0))) 7 8 (qe c 1) true) [35]),(cX 6 (λc os=>qy w.params (fdD w.params) a0 0 (qF [(0,0),(1,4),(2,8),(3,12),(5,17),(6,21),(7,25)] (qx os 4)) 7 0) [39,37,2,38,6,10,14,18,25,29,33]),(cX 1 (λc os=>qL (psL [(0,0),(1,4),(2,8),(3,12),(5,17),(6,21),(7,25)] (qp (oAt os 0))) 7 9 (qe c 1) false) [38]),(cX 12 (λc os=>qy w.params (fdD w.params) a0 0 (qF [(0,0),(1,4),(2,8),(3,12),(5,17),(6,21),(7,25),(9,30)] (qx os 4)) 8 0) [43,41,2,42,6,10,14,18,25,29,33,40]),(cX 1 (λc os=>qL (psL [(0,0),(1,4),(2,8),(3,12),(5,17),(6,21),(7,25),(9,30)] (qp (oAt os 0))) 8 10 (qe c 1) false) [42]),(cX 12 (λc os=>qy w.params (fdD w.params) a0 0 (qF [(0,0),(1,4),(2,8),(3,12),(5,17),(6,21),(7,25),(9,30),(10,34)] (qx os 4)) 9 0) [47,45,2,46,6,10,14,18,25,29,33,40,44]),(cX 1 (λc os=>qL (psL [(0,0),(1,4),(2,8),(3,12),(5,17),(6,21),(7,25),(9,30),(10,34)] (qp (oAt os 0))) 9 11 (qe c 1) false) [46]),(cX 12 (λc os=>qy w.params (fdD w.params) a0 0 (qF [(0,0),(1,4),(2,8),(3,12),(5,17),(6,21),(7,25),(9,30),(10,34),(11,38)] (qx os 4)) 10 0) [51,49,2,50,6,10,14,18,25,29,33,40,44,48]),(cX 1 (λc os=>qL (psL [(0,0),(1,4),(2,8),(3,12),(5,17),(6,21),(7,25),(9,30),(10,34),(11,38)] (qp (oAt os 0))) 10 12 (qe c 1) true) [50]),(cX 6 (λc os=>qy w.params (fdD w.params) a0 0 (qF [(0,0),(1,4),(2,8),(3,12),(5,17),(6,21),(7,25),(9,30),(10,34),(11,38)] (qx os 4)) 10 0) [54,52,2,53,6,10,14,18,25,29,33,40,44,48]),(cX 1 (λc os=>qL (psL [(0,0),(1,4),(2,8),(3,12),(5,17),(6,21),(7,25),(9,30),(10,34),(11,38)] (qp (oAt os 0))) 10 13 (qe c 1) false) [53]),(cX 12 (λc os=>qy w.params (fdD w.params) a0 0 (qF [(0,0),(1,4),(2,8),(3,12),(5,17),(6,21),(7,25),(9,30),(10,34),(11,38),(13,43)] (qx os 4)) 11 0) [58,56,2,57,6,10,14,18,25,29,33,40,44,48,55]),(cX 1 (λc os=>qL (psL [(0,0),(1,4),(2,8),(3,12),(5,17),(6,21),(7,25),(9,30),(10,34),(11,38),(13,43)] (qp (oAt os 0))) 11 14 (qe c 1) false) [57]),(cX 12 (λc os=>qy w.params (fdD w.params) a0 0 (qF [(0,0),(1,4),(2,8),(3,12),(5,17),(6,21),(7,25),(9,30),(10,34),(11,38),(13,43),(14,47)] (qx os 4)) 12 0) ((hx 0x13bd37d30d2cd28d21d1dd19d12d0ed0ad06d3dd02d3cd3ed))),(cX 1 (λc os=>qL (psL [(0,0),(1,4),(2,8),(3,12),(5,17),(6,21),(7,25),(9,30),(10,34),(11,38),(13,43),(14,47)] (qp (oAt os 0))) 12 15 (qe c 1) false) [61])] (λa N t0 gN=>[]) (λa N t0 gN=>[a.c 1 0+0,a.c 3 0+0,a.c 5 0+0,a.c 7 0+0,a.c 11 0+0,a.c 13 0+0,a.c 15 0+0,a.c 19 0+0,a.c 21 0+0,a.c 23 0+0,a.c 27 0+0,a.c 29 0+0,a.c 31 0+0,t0+0,a.c 1 1+3,a.c 1 1+4,a.c 3 1+3,a.c 3 1+4,a.c 5 1+3,a.c 5 1+4,a.c 7 1+3,a.c 9 1+0,a.c 11 1+3,a.c 11 1+4,a.c 13 1+3,a.c 13 1+4,a.c 15 1+3,a.c 17 1+0,a.c 19 1+3,a.c 19 1+4,a.c 21 1+3,a.c 21 1+4,a.c 23 1+3,a.c 25 1+0,a.c 27 1+3,a.c 27 1+4,a.c 29 1+3,a.c 29 1+4,a.c 31 1+3,t0+1,a.c 29 1+4]):=λN t0 gN a x' y' z'=>by
 kernel_rfl
theorem qlG {kn kw kp:U1} {num:Int} {tn tw:U1}:VC w 2 (wq w.params (fdD w.params) 3 kn kw kp num tn tw):=by
 refine qu 3 λads hl hok => ?_
 obtain ⟨a0,a1,a2,rfl⟩:=qh1 hl
 exact (C2 (qoI kn kw kp num tn tw a0 a1 a2) (qa (λc os=>qh) (qa (λc os=>qj ((qo (λb=>b==0) _ _).trans (by decide))) (qa (λc os=>qh) (qa (λc os=>qj ((qo (λb=>b==1) _ _).trans (by decide))) (qa (λc os=>qh) (qa (λc os=>qj ((qo (λb=>b==2) _ _).trans (by decide))) (qa (λc os=>qh) (qa (λc os=>qj ((qo (λb=>b==3) _ _).trans (by decide))) (qa (λc os=>qh) (qa (λc os=>qj ((qo (λb=>b==4) _ _).trans (by decide))) (qa (λc os=>qh) (qa (λc os=>qj ((qo (λb=>b==5) _ _).trans (by decide))) (qa (λc os=>qh) (qa (λc os=>qj ((qo (λb=>b==6) _ _).trans (by decide))) (qa (λc os=>qh) (qa (λc os=>qj ((qo (λb=>b==7) _ _).trans (by decide))) (qa (λc os=>qh) (qa (λc os=>qj ((qo (λb=>b==8) _ _).trans (by decide))) (qa (λc os=>qh) (qa (λc os=>qj ((qo (λb=>b==9) _ _).trans (by decide))) (qa (λc os=>qh) (qa (λc os=>qj ((qo (λb=>b==10) _ _).trans (by decide))) (qa (λc os=>qh) (qa (λc os=>qj ((qo (λb=>b==11) _ _).trans (by decide))) (qa (λc os=>qh) (qa (λc os=>qj ((qo (λb=>b==12) _ _).trans (by decide))) (qa (λc os=>qh) (qa (λc os=>qj ((qo (λb=>b==13) _ _).trans (by decide))) (qa (λc os=>qh) (qa (λc os=>qj ((qo (λb=>b==14) _ _).trans (by decide))) (qa (λc os=>qh) (qa (λc os=>qj ((qo (λb=>b==15) _ _).trans (by decide))) (B0))))))))))))))))))))))))))))))))) (λ_ _ _ _ _ h=>nomatch h))
theorem qjm:plainId "int.__lt__"=true:=by decide +kernel
theorem qjn:plainId "int.__gt__"=true:=by decide +kernel
theorem w9 {lev:Nat} {a b:Int} {t u:U1} {r:Bool} (h:decide (a<b)=r):VC w lev (zW "int.__lt__" ⟨[.int a t, .int b u],[]⟩ λ_ => .bool r) :=
 zO qjm PySem.F.entry_int_lt (gives_int_lt a b t u) λs Q q=>by subst h;exact q 0 s.toks
theorem vf {lev:Nat} {a b:Int} {t u:U1} {r:Bool} (h:decide (a>b)=r):VC w lev (zW "int.__gt__" ⟨[.int a t, .int b u],[]⟩ λ_ => .bool r) :=
 zO qjn PySem.F.entry_int_gt (gives_int_gt a b t u) λs Q q=>by subst h;exact q 0 s.toks
noncomputable def fdX (p:T4) (n:Nat):T5:=qdP (ktOf p n)
noncomputable def qAd (x:Addr):T1×T1:=(.bool (x==x), .bool true)
noncomputable def frE (p:T4) (F L:Nat) (c:Nat→Nat):Prop:=some [envBounds (fdX p 284) F,envLaw (fdX p 289) L c]=some [envBounds (fdX p 284) F,envLaw (fdX p 289) L c]
theorem qkd (la:U1) (r0:Int) (t0':U1) (r1:Int) (t1':U1) (rv:Nat) (d2:Data) (c0 c1 c2 c3 c4 c5 c6:Obj) (a0 a1 a2 a3 a4 a5 a6 a7 a8:Nat):RunF w (vR (fdX w.params 289) la r0 t0' r1 t1' rv d2 c0 c1 c2 c3 c4 c5 c6) 9 613 [a0,a1,a2,a3,a4,a5,a6,a7,a8] [26] (hx 0x11130e23d0630e22d21d16f20d0630e40f114f6302020401fd0024001ed1dd16f1cd1f1260f1bd0021201e1011ad19d3f31110118d17d0910e061fe110605e0100180f716d0a07e2f111f14d0f13d00312d0a0be1326e10d0fd0055050030ed0708e080be0f20120f10cd0bd0001d10010f0ad000d) [(1, .bool true),oT,(1, .bool true),oT,(3, .bool true),(1, .bool true)] [(cC 12 (cmpC "int.__lt__" r1 r0 false) []),(cC 14 (cmpC "int.__gt__" r1 r0 true) []),(cC 11 (yA false 81 r0 r1 r1) []),(cC 0 (yA false 64 r0 r1 r0) []),(cC 0 (j0 false 81 16) []),(cC 0 (yA true 80 r0 r1 r1) []),(cC 0 (yA true 64 r0 r1 r0) []),(cC 0 (j0 true 80 16) []),(cO 14 (yq w.params (fdB w.params false) (fdX w.params 284) (fdX w.params 289) false false) [27,9,1,2,3,4,5,6,7,8]),(cO 7 (yq w.params (fdB w.params true) (fdX w.params 284) (fdX w.params 289) true true) [31,9,1,2,3,4,5,6,7,8])] (λ_ N _ _=>[qAd N,qAd N,qEq r0 r0 true,qEq r1 r1 true,qEq r0 r0 true,qEq r1 r1 true]) (λa N t0 gN=>adF [a.c 7 0+3,a.c 8 1+0,a.c 11 1+0,a.c 8 5] 0) (λ_ N _ _=>[frE w.params N a1 (λi=>adF [a2,a3,a4,a5,a6,a7,a8] 0 i),frE w.params N a1 (λi=>adF [a2,a3,a4,a5,a6,a7,a8] 0 i)]):=λN t0 gN a x' y' z'=>by
 kernel_rfl
theorem qke (la:U1) (r0:Int) (t0':U1) (r1:Int) (t1':U1) (rv:Nat) (d2:Data) (c0 c1 c2 c3 c4 c5 c6:Obj) (a0 a1 a2 a3 a4 a5 a6 a7 a8:Nat):RunF w (vR (fdX w.params 289) la r0 t0' r1 t1' rv d2 c0 c1 c2 c3 c4 c5 c6) 9 613 [a0,a1,a2,a3,a4,a5,a6,a7,a8] [26] (hx 0x11130e23d0630e22d21d16f20d0630e40f114f6302020401fd0024001ed1dd16f1cd1f1260f1bd0021201e1011ad19d3f31110118d17d0910e061fe110605e0100180f716d0a07e2f111f14d0f13d00312d0708e1329e10d0fd0055050030ed120be0f20120f10cd0bd0001d10010f0ad000d) [(1, .bool true),oT,(1, .bool true),oT,(3, .bool true),(1, .bool true)] [(cC 12 (cmpC "int.__lt__" r1 r0 true) []),(cC 14 (cmpC "int.__gt__" r1 r0 false) []),(cC 11 (yA false 81 r1 r0 r0) []),(cC 0 (yA false 64 r1 r0 r1) []),(cC 0 (j0 false 81 16) []),(cC 0 (yA true 80 r1 r0 r0) []),(cC 0 (yA true 64 r1 r0 r1) []),(cC 0 (j0 true 80 16) []),(cO 14 (yq w.params (fdB w.params false) (fdX w.params 284) (fdX w.params 289) false false) [27,9,1,2,3,4,5,6,7,8]),(cO 7 (yq w.params (fdB w.params true) (fdX w.params 284) (fdX w.params 289) true true) [31,9,1,2,3,4,5,6,7,8])] (λ_ N _ _=>[qAd N,qAd N,qEq r1 r1 true,qEq r0 r0 true,qEq r1 r1 true,qEq r0 r0 true]) (λa N t0 gN=>adF [a.c 7 0+3,a.c 8 1+0,a.c 11 1+0,a.c 8 5] 0) (λ_ N _ _=>[frE w.params N a1 (λi=>adF [a2,a3,a4,a5,a6,a7,a8] 0 i),frE w.params N a1 (λi=>adF [a2,a3,a4,a5,a6,a7,a8] 0 i)]):=λN t0 gN a x' y' z'=>by
 kernel_rfl
theorem qkf (la:U1) (r0:Int) (t0':U1) (r1:Int) (t1':U1) (rv:Nat) (d2:Data) (c0 c1 c2 c3 c4 c5 c6:Obj) (a0 a1 a2 a3 a4 a5 a6 a7 a8:Nat):RunF w (vR (fdX w.params 289) la r0 t0' r1 t1' rv d2 c0 c1 c2 c3 c4 c5 c6) 9 610 [a0,a1,a2,a3,a4,a5,a6,a7,a8] [26] (hx 0x11130e23d0630e22d21d16f20d0630e40f114f6302020401fd0024001ed1dd16f1cd1f1260f1bd0021201e1011ad19d3f31110118d17d0910e061fe110605e0100180f716d0a07e2f111f14d0f13d00312d1a26e10d0fd0055050030ed0708e080be0f20120f10cd0bd0001d10010f0ad000d) [(1, .bool true),oT,(1, .bool true),oT,(3, .bool true),(1, .bool true)] [(cC 12 (cmpC "int.__lt__" r1 r0 false) []),(cC 14 (cmpC "int.__gt__" r1 r0 false) []),(cC 11 (yA false 81 r0 r0 r0) []),(cC 0 (yA false 64 r0 r0 r0) []),(cC 0 (j0 false 81 16) []),(cC 0 (yA true 80 r0 r0 r0) []),(cC 0 (yA true 64 r0 r0 r0) []),(cC 0 (j0 true 80 16) []),(cO 14 (yq w.params (fdB w.params false) (fdX w.params 284) (fdX w.params 289) false false) [27,9,1,2,3,4,5,6,7,8]),(cO 7 (yq w.params (fdB w.params true) (fdX w.params 284) (fdX w.params 289) true true) [31,9,1,2,3,4,5,6,7,8])] (λ_ N _ _=>[qAd N,qAd N,qEq r0 r0 true,qEq r0 r0 true,qEq r0 r0 true,qEq r0 r0 true]) (λa N t0 gN=>adF [a.c 7 0+3,a.c 8 1+0,a.c 11 1+0,a.c 8 5] 0) (λ_ N _ _=>[frE w.params N a1 (λi=>adF [a2,a3,a4,a5,a6,a7,a8] 0 i),frE w.params N a1 (λi=>adF [a2,a3,a4,a5,a6,a7,a8] 0 i)]):=λN t0 gN a x' y' z'=>by
 kernel_rfl
theorem qna (F:Nat):PlainEnv (envBounds (fdX w.params 284) F):=⟨by rw [show (envBounds (fdX w.params 284) F).scope.kind = .function by kernel_rfl];decide,by kernel_rfl⟩
theorem qm9 (F:Nat) (c:Nat→Nat):PlainEnv (envLaw (fdX w.params 289) F c):=⟨by rw [show (envLaw (fdX w.params 289) F c).scope.kind = .function by kernel_rfl];decide,by kernel_rfl⟩
theorem yy {la:U1} {r0:Int} {t0':U1} {r1:Int} {t1':U1} {rv:Nat} {d2:Data} {c0 c1 c2 c3 c4 c5 c6:Obj} (h0:0≤r0) (h1:r0≤15) (h2:0≤r1) (h3:r1≤15):VC w 3 (vR (fdX w.params 289) la r0 t0' r1 t1' rv d2 c0 c1 c2 c3 c4 c5 c6):=by
 have bl:∀(x lo hi r:Int) (rb:Bool),ze rb x lo hi=r→0≤lo→lo≤hi→hi≤16→∀(c:Code) (os:List Obj),VC w 2 (yA rb x lo hi r c):=by
  intro x lo hi r rb e h0 h1 h2 c os
  cases rb
  ·exact qsL h0 h1 h2 e
  ·exact qsK h0 h1 h2 e
 have br:∀(r rd:Bool) (c:Code) (os:List Obj),VC w 2 (yq w.params (fdB w.params r) (fdX w.params 284) (fdX w.params 289) r rd os):=λr rd c os=>(qdn (λF=>qna F) (λF c=>qm9 F c)).up
 have q:∀(l m:Int) (N:Nat),∀p∈[qAd N,qAd N,qEq l l true,qEq m m true,qEq l l true,qEq m m true],p.1=p.2:=by
  intro l m N p hp
  simp only [E2,F5,or_false] at hp
  rcases hp with rfl | rfl | rfl | rfl | rfl | rfl <;> exact vb (beq_self_eq_true _)
 refine q8 9 λads hl hok => ?_
 obtain ⟨a0,a1,a2,a3,a4,a5,a6,a7,a8,rfl⟩:=qtm hl
 have sq:∀(E:Prop),E→∀P∈[E,E],P:=λE h P hP=>by
  simp only [E2,F5,or_false,or_self] at hP
  exact hP▸h
 by_cases e:r0<r1
 ·exact (qI.mk9 (qkd la r0 t0' r1 t1' rv d2 c0 c1 c2 c3 c4 c5 c6 a0 a1 a2 a3 a4 a5 a6 a7 a8) ((qa (λ_ _=>w9 (decide_eq_false (by lia))) (qa (λ_ _=>vf (decide_eq_true (by lia))) (qa (bl 81 r0 r1 r1 false (by unfold ze zS;repeat' split <;> lia) (by lia) (by lia) (by lia)) (qa (bl 64 r0 r1 r0 false (by unfold ze zS;repeat' split <;> lia) (by lia) (by lia) (by lia)) (qa (λ_ _=>yN (by decide)) (qa (bl 80 r0 r1 r1 true (by unfold ze zS;repeat' split <;> lia) (by lia) (by lia) (by lia)) (qa (bl 64 r0 r1 r0 true (by unfold ze zS;repeat' split <;> lia) (by lia) (by lia) (by lia)) (qa (λ_ _=>qij (by decide)) (qa (br false false) (qa (br true true) B0))))))))))) (λ_ N _ _=>q r0 r1 N) (λ_ N _ _=>sq _ rfl))
 by_cases e':r1<r0
 ·exact (qI.mk9 (qke la r0 t0' r1 t1' rv d2 c0 c1 c2 c3 c4 c5 c6 a0 a1 a2 a3 a4 a5 a6 a7 a8) ((qa (λ_ _=>w9 (decide_eq_true (by lia))) (qa (λ_ _=>vf (decide_eq_false (by lia))) (qa (bl 81 r1 r0 r0 false (by unfold ze zS;repeat' split <;> lia) (by lia) (by lia) (by lia)) (qa (bl 64 r1 r0 r1 false (by unfold ze zS;repeat' split <;> lia) (by lia) (by lia) (by lia)) (qa (λ_ _=>yN (by decide)) (qa (bl 80 r1 r0 r0 true (by unfold ze zS;repeat' split <;> lia) (by lia) (by lia) (by lia)) (qa (bl 64 r1 r0 r1 true (by unfold ze zS;repeat' split <;> lia) (by lia) (by lia) (by lia)) (qa (λ_ _=>qij (by decide)) (qa (br false false) (qa (br true true) B0))))))))))) (λ_ N _ _=>q r1 r0 N) (λ_ N _ _=>sq _ rfl))
 exact (qI.mk9 (qkf la r0 t0' r1 t1' rv d2 c0 c1 c2 c3 c4 c5 c6 a0 a1 a2 a3 a4 a5 a6 a7 a8) ((qa (λ_ _=>w9 (decide_eq_false (by lia))) (qa (λ_ _=>vf (decide_eq_false (by lia))) (qa (bl 81 r0 r0 r0 false (by unfold ze zS;repeat' split <;> lia) (by lia) (by lia) (by lia)) (qa (bl 64 r0 r0 r0 false (by unfold ze zS;repeat' split <;> lia) (by lia) (by lia) (by lia)) (qa (λ_ _=>yN (by decide)) (qa (bl 80 r0 r0 r0 true (by unfold ze zS;repeat' split <;> lia) (by lia) (by lia) (by lia)) (qa (bl 64 r0 r0 r0 true (by unfold ze zS;repeat' split <;> lia) (by lia) (by lia) (by lia)) (qa (λ_ _=>qij (by decide)) (qa (br false false) (qa (br true true) B0))))))))))) (λ_ N _ _=>q r0 r0 N) (λ_ N _ _=>sq _ rfl))
theorem qqj (a:Int) (t:U1) (b:Int) (u:U1):RunOk w (mmC "min" a t b u b u) 0 79 [] [] hintsTwice0 [] [(cC 9 (cmpC "int.__lt__" b a true) [])] (λa N t0 gN=>[]) (λa N t0 gN=>[]):=λN t0 gN a x' y' z'=>by
 kernel_rfl
theorem qqk (a:Int) (t:U1) (b:Int) (u:U1):RunOk w (mmC "min" a t b u a t) 0 76 [] [] hintsTwice1 [] [(cC 9 (cmpC "int.__lt__" b a false) [])] (λa N t0 gN=>[]) (λa N t0 gN=>[]):=λN t0 gN a x' y' z'=>by
 kernel_rfl
theorem qql (a:Int) (t:U1) (b:Int) (u:U1):RunOk w (mmC "max" a t b u b u) 0 79 [] [] hintsTwice0 [] [(cC 9 (cmpC "int.__gt__" b a true) [])] (λa N t0 gN=>[]) (λa N t0 gN=>[]):=λN t0 gN a x' y' z'=>by
 kernel_rfl
theorem qqm (a:Int) (t:U1) (b:Int) (u:U1):RunOk w (mmC "max" a t b u a t) 0 76 [] [] hintsTwice1 [] [(cC 9 (cmpC "int.__gt__" b a false) [])] (λa N t0 gN=>[]) (λa N t0 gN=>[]):=λN t0 gN a x' y' z'=>by
 kernel_rfl
noncomputable def swT (s:Bool) (t u:U1):U1:=match s with
 | true=>u
 | false=>t
theorem qk2 {a b m:Int} {t u:U1} {s:Bool} (h:decide (b<a)=s) (hm:m=match s with | true=>b | false=>a):VC w 1 (mmC "min" a t b u m (swT s t u)):=by
 subst hm
 refine qu 0 λads hl hok => ?_
 obtain rfl:=E5 hl
 cases s
 ·exact (C2 (qqk a t b u) (qa (λ_ _=>w9 h) B0) (λ_ _ _ _ _ h=>nomatch h))
 ·exact (C2 (qqj a t b u) (qa (λ_ _=>w9 h) B0) (λ_ _ _ _ _ h=>nomatch h))
theorem qk3 {a b m:Int} {t u:U1} {s:Bool} (h:decide (b>a)=s) (hm:m=match s with | true=>b | false=>a):VC w 1 (mmC "max" a t b u m (swT s t u)):=by
 subst hm
 refine qu 0 λads hl hok => ?_
 obtain rfl:=E5 hl
 cases s
 ·exact (C2 (qqm a t b u) (qa (λ_ _=>vf h) B0) (λ_ _ _ _ _ h=>nomatch h))
 ·exact (C2 (qql a t b u) (qa (λ_ _=>vf h) B0) (λ_ _ _ _ _ h=>nomatch h))
noncomputable def jX (p:T4) (fd:T5) (wide:Nat) (num:Int) (os:List Obj):Ctr:=wq p fd wide (tkK (z7 (z6 (oAt os 0)) 0).key) (tkK (z7 (z6 (oAt os 0)) 1).key) (tkK (z7 (z6 (oAt os 0)) 2).key) num (tkK (z7 (z6 (oAt os 0)) 0).val) (tkK (z7 (z6 (oAt os 0)) 1).val)
noncomputable def mmAt (id:String) (a b m:Int) (s:Bool) (c:Code):Ctr:=mmC id a (qe c 0) b (qe c 1) m (swT s (qe c 0) (qe c 1))
noncomputable def wR (l:List (Nat×Nat)) (x y:Int) (r:Bool) (os:List Obj):Ctr:=qqT (qF l (qx os 2)) l.length x (tkI (qp (oAt os 1)) 0) y (tkI (qp (oAt os 1)) 1) r
noncomputable def j8:List Nat:=hx 0x10002d00101030204d6f03d010110f01d000d
theorem qrj (num:Int) (tn tw:U1) (r0 r1 m0 m1:Int) (s0 s1:Bool):RunOk w (wr num tn 1 tw true) 0 125 [] [] j8 [oF,(0, .int r0 0),(0, .int r1 0),oF,(0, .int r0 0),(0, .int r1 0)] [(cO 9 (jX w.params (fdD w.params) 1 num) [0,3,1]),(cC 1 (mmAt "min" r0 r1 m0 s0) []),(cC 1 (mmAt "max" r0 r1 m1 s1) []),(cO 1 (wR (zC 1) m0 m1 true) [1,14,4,5,6,7,8,9,10,11,12,13])] (λa N t0 gN=>[(.int (E9 num 16) (a.c 1 1+3), .int r1 (a.c 1 1+3)),(.int (F6 num 16) (a.c 1 1+1), .int r0 (a.c 1 1+1)),(.bool (E4 num 16), .bool false),(.int (E9 num 16) (a.c 0 1+3), .int r1 (a.c 0 1+3)),(.int (F6 num 16) (a.c 0 1+1), .int r0 (a.c 0 1+1)),(.bool (E4 num 16), .bool false)]) (λa N t0 gN=>[]):=λN t0 gN a x' y' z'=>by
 kernel_rfl
theorem qrk (num:Int) (tn tw:U1) (r0 r1 m0 m1:Int) (s0 s1:Bool):RunOk w (wr num tn 1 tw false) 0 125 [] [] j8 [oF,(0, .int r0 0),(0, .int r1 0),oF,(0, .int r0 0),(0, .int r1 0)] [(cO 9 (jX w.params (fdD w.params) 1 num) [0,3,1]),(cC 1 (mmAt "min" r0 r1 m0 s0) []),(cC 1 (mmAt "max" r0 r1 m1 s1) []),(cO 1 (wR (zC 1) m0 m1 false) [1,14,4,5,6,7,8,9,10,11,12,13])] (λa N t0 gN=>[(.int (E9 num 16) (a.c 1 1+3), .int r1 (a.c 1 1+3)),(.int (F6 num 16) (a.c 1 1+1), .int r0 (a.c 1 1+1)),(.bool (E4 num 16), .bool false),(.int (E9 num 16) (a.c 0 1+3), .int r1 (a.c 0 1+3)),(.int (F6 num 16) (a.c 0 1+1), .int r0 (a.c 0 1+1)),(.bool (E4 num 16), .bool false)]) (λa N t0 gN=>[]):=λN t0 gN a x' y' z'=>by
 kernel_rfl
theorem qsy {num:Int} {tn tw:U1} {r0 r1 m0 m1:Int} {s0 s1:Bool} {r:Bool} (hs:decide (r1<r0)=s0) (ht:decide (r1>r0)=s1) (h0:F6 num 16=r0) (h1:E9 num 16=r1) (hm0:m0=match s0 with | true=>r1 | false=>r0) (hm1:m1=match s1 with | true=>r1 | false=>r0) (hr:(zC 1).any (λp=>E3 p.1==m0&&E3 p.2==m1)=r):VC w 3 (wr num tn 1 tw r):=by
 have key:∀(x y z:U1) (x' y' z':U1),∀p∈[(Value.int (E9 num 16) x,Value.int r1 x),(.int (F6 num 16) y, .int r0 y),(.bool (E4 num 16), .bool false),(Value.int (E9 num 16) x',Value.int r1 x'),(.int (F6 num 16) y', .int r0 y'),(.bool (E4 num 16), .bool false)],p.1=p.2:=by
  intro x y z x' y' z' p hp
  simp only [E2,F5,or_false] at hp
  rcases hp with rfl | rfl | rfl | rfl | rfl | rfl <;> first | (show Value.int _ _=Value.int _ _;rw [h0]) | (show Value.int _ _=Value.int _ _;rw [h1]) | exact vb (PyProof.noPylong_small (by decide))
 refine qu 0 λads hl hok => ?_
 obtain rfl:=E5 hl
 have av:∀(a b c d:Nat) (i j k l:List Nat) (r':Bool),r=r'→AllValid prog w (ktOf w.params) 2 [⟨a,some (λ_ os=>jX w.params (fdD w.params) 1 num os,i),[]⟩,⟨b,some (λc _=>mmAt "min" r0 r1 m0 s0 c,j),[]⟩,⟨c,some (λc _=>mmAt "max" r0 r1 m1 s1 c,k),[]⟩,⟨d,some (λ_ os=>wR (zC 1) m0 m1 r' os,l),[]⟩]:=λa b c d i j k l r' e =>
  qa (λ_ _=>qlI) (qa (λ_ _=>(qk2 hs hm0).up) (qa (λ_ _=>(qk3 ht hm1).up) (qa (λ_ os=>(qap ((w8 (λp q=>p==m0&&q==m1) _ _).trans (hr.trans e))).up) B0)))
 cases r
 ·exact (C2 (qrk num tn tw r0 r1 m0 m1 s0 s1) (av _ _ _ _ _ _ _ _ _ rfl) (λ_ _ _ _=>key _ _ 0 _ _ 0))
 ·exact (C2 (qrj num tn tw r0 r1 m0 m1 s0 s1) (av _ _ _ _ _ _ _ _ _ rfl) (λ_ _ _ _=>key _ _ 0 _ _ 0))
theorem qrh (num:Int) (tn tw:U1) (r0 r1 m0 m1:Int) (s0 s1:Bool):RunOk w (wr num tn 2 tw true) 0 125 [] [] j8 [oF,(0, .int r0 0),(0, .int r1 0),oF,(0, .int r0 0),(0, .int r1 0)] [(cO 9 (jX w.params (fdD w.params) 2 num) [0,3,1]),(cC 1 (mmAt "min" r0 r1 m0 s0) []),(cC 1 (mmAt "max" r0 r1 m1 s1) []),(cO 1 (wR (zC 2) m0 m1 true) [1,16,4,5,6,7,8,9,10,11,12,13,14,15])] (λa N t0 gN=>[(.int (E9 num 16) (a.c 1 1+3), .int r1 (a.c 1 1+3)),(.int (F6 num 16) (a.c 1 1+1), .int r0 (a.c 1 1+1)),(.bool (E4 num 16), .bool false),(.int (E9 num 16) (a.c 0 1+3), .int r1 (a.c 0 1+3)),(.int (F6 num 16) (a.c 0 1+1), .int r0 (a.c 0 1+1)),(.bool (E4 num 16), .bool false)]) (λa N t0 gN=>[]):=λN t0 gN a x' y' z'=>by
 kernel_rfl
theorem qri (num:Int) (tn tw:U1) (r0 r1 m0 m1:Int) (s0 s1:Bool):RunOk w (wr num tn 2 tw false) 0 125 [] [] j8 [oF,(0, .int r0 0),(0, .int r1 0),oF,(0, .int r0 0),(0, .int r1 0)] [(cO 9 (jX w.params (fdD w.params) 2 num) [0,3,1]),(cC 1 (mmAt "min" r0 r1 m0 s0) []),(cC 1 (mmAt "max" r0 r1 m1 s1) []),(cO 1 (wR (zC 2) m0 m1 false) [1,16,4,5,6,7,8,9,10,11,12,13,14,15])] (λa N t0 gN=>[(.int (E9 num 16) (a.c 1 1+3), .int r1 (a.c 1 1+3)),(.int (F6 num 16) (a.c 1 1+1), .int r0 (a.c 1 1+1)),(.bool (E4 num 16), .bool false),(.int (E9 num 16) (a.c 0 1+3), .int r1 (a.c 0 1+3)),(.int (F6 num 16) (a.c 0 1+1), .int r0 (a.c 0 1+1)),(.bool (E4 num 16), .bool false)]) (λa N t0 gN=>[]):=λN t0 gN a x' y' z'=>by
 kernel_rfl
theorem qsx {num:Int} {tn tw:U1} {r0 r1 m0 m1:Int} {s0 s1:Bool} {r:Bool} (hs:decide (r1<r0)=s0) (ht:decide (r1>r0)=s1) (h0:F6 num 16=r0) (h1:E9 num 16=r1) (hm0:m0=match s0 with | true=>r1 | false=>r0) (hm1:m1=match s1 with | true=>r1 | false=>r0) (hr:(zC 2).any (λp=>E3 p.1==m0&&E3 p.2==m1)=r):VC w 3 (wr num tn 2 tw r):=by
 have key:∀(x y z:U1) (x' y' z':U1),∀p∈[(Value.int (E9 num 16) x,Value.int r1 x),(.int (F6 num 16) y, .int r0 y),(.bool (E4 num 16), .bool false),(Value.int (E9 num 16) x',Value.int r1 x'),(.int (F6 num 16) y', .int r0 y'),(.bool (E4 num 16), .bool false)],p.1=p.2:=by
  intro x y z x' y' z' p hp
  simp only [E2,F5,or_false] at hp
  rcases hp with rfl | rfl | rfl | rfl | rfl | rfl <;> first | (show Value.int _ _=Value.int _ _;rw [h0]) | (show Value.int _ _=Value.int _ _;rw [h1]) | exact vb (PyProof.noPylong_small (by decide))
 refine qu 0 λads hl hok => ?_
 obtain rfl:=E5 hl
 have av:∀(a b c d:Nat) (i j k l:List Nat) (r':Bool),r=r'→AllValid prog w (ktOf w.params) 2 [⟨a,some (λ_ os=>jX w.params (fdD w.params) 2 num os,i),[]⟩,⟨b,some (λc _=>mmAt "min" r0 r1 m0 s0 c,j),[]⟩,⟨c,some (λc _=>mmAt "max" r0 r1 m1 s1 c,k),[]⟩,⟨d,some (λ_ os=>wR (zC 2) m0 m1 r' os,l),[]⟩]:=λa b c d i j k l r' e =>
  qa (λ_ _=>qlH) (qa (λ_ _=>(qk2 hs hm0).up) (qa (λ_ _=>(qk3 ht hm1).up) (qa (λ_ os=>(qap ((w8 (λp q=>p==m0&&q==m1) _ _).trans (hr.trans e))).up) B0)))
 cases r
 ·exact (C2 (qri num tn tw r0 r1 m0 m1 s0 s1) (av _ _ _ _ _ _ _ _ _ rfl) (λ_ _ _ _=>key _ _ 0 _ _ 0))
 ·exact (C2 (qrh num tn tw r0 r1 m0 m1 s0 s1) (av _ _ _ _ _ _ _ _ _ rfl) (λ_ _ _ _=>key _ _ 0 _ _ 0))
theorem qrf (num:Int) (tn tw:U1) (r0 r1 m0 m1:Int) (s0 s1:Bool):RunOk w (wr num tn 3 tw true) 0 125 [] [] j8 [oF,(0, .int r0 0),(0, .int r1 0),oF,(0, .int r0 0),(0, .int r1 0)] [(cO 9 (jX w.params (fdD w.params) 3 num) [0,3,1]),(cC 1 (mmAt "min" r0 r1 m0 s0) []),(cC 1 (mmAt "max" r0 r1 m1 s1) []),(cO 1 (wR (zC 3) m0 m1 true) [1,17,4,5,6,7,8,9,10,11,12,13,14,15,16])] (λa N t0 gN=>[(.int (E9 num 16) (a.c 1 1+3), .int r1 (a.c 1 1+3)),(.int (F6 num 16) (a.c 1 1+1), .int r0 (a.c 1 1+1)),(.bool (E4 num 16), .bool false),(.int (E9 num 16) (a.c 0 1+3), .int r1 (a.c 0 1+3)),(.int (F6 num 16) (a.c 0 1+1), .int r0 (a.c 0 1+1)),(.bool (E4 num 16), .bool false)]) (λa N t0 gN=>[]):=λN t0 gN a x' y' z'=>by
 kernel_rfl
theorem qrg (num:Int) (tn tw:U1) (r0 r1 m0 m1:Int) (s0 s1:Bool):RunOk w (wr num tn 3 tw false) 0 125 [] [] j8 [oF,(0, .int r0 0),(0, .int r1 0),oF,(0, .int r0 0),(0, .int r1 0)] [(cO 9 (jX w.params (fdD w.params) 3 num) [0,3,1]),(cC 1 (mmAt "min" r0 r1 m0 s0) []),(cC 1 (mmAt "max" r0 r1 m1 s1) []),(cO 1 (wR (zC 3) m0 m1 false) [1,17,4,5,6,7,8,9,10,11,12,13,14,15,16])] (λa N t0 gN=>[(.int (E9 num 16) (a.c 1 1+3), .int r1 (a.c 1 1+3)),(.int (F6 num 16) (a.c 1 1+1), .int r0 (a.c 1 1+1)),(.bool (E4 num 16), .bool false),(.int (E9 num 16) (a.c 0 1+3), .int r1 (a.c 0 1+3)),(.int (F6 num 16) (a.c 0 1+1), .int r0 (a.c 0 1+1)),(.bool (E4 num 16), .bool false)]) (λa N t0 gN=>[]):=λN t0 gN a x' y' z'=>by
 kernel_rfl
theorem qsw {num:Int} {tn tw:U1} {r0 r1 m0 m1:Int} {s0 s1:Bool} {r:Bool} (hs:decide (r1<r0)=s0) (ht:decide (r1>r0)=s1) (h0:F6 num 16=r0) (h1:E9 num 16=r1) (hm0:m0=match s0 with | true=>r1 | false=>r0) (hm1:m1=match s1 with | true=>r1 | false=>r0) (hr:(zC 3).any (λp=>E3 p.1==m0&&E3 p.2==m1)=r):VC w 3 (wr num tn 3 tw r):=by
 have key:∀(x y z:U1) (x' y' z':U1),∀p∈[(Value.int (E9 num 16) x,Value.int r1 x),(.int (F6 num 16) y, .int r0 y),(.bool (E4 num 16), .bool false),(Value.int (E9 num 16) x',Value.int r1 x'),(.int (F6 num 16) y', .int r0 y'),(.bool (E4 num 16), .bool false)],p.1=p.2:=by
  intro x y z x' y' z' p hp
  simp only [E2,F5,or_false] at hp
  rcases hp with rfl | rfl | rfl | rfl | rfl | rfl <;> first | (show Value.int _ _=Value.int _ _;rw [h0]) | (show Value.int _ _=Value.int _ _;rw [h1]) | exact vb (PyProof.noPylong_small (by decide))
 refine qu 0 λads hl hok => ?_
 obtain rfl:=E5 hl
 have av:∀(a b c d:Nat) (i j k l:List Nat) (r':Bool),r=r'→AllValid prog w (ktOf w.params) 2 [⟨a,some (λ_ os=>jX w.params (fdD w.params) 3 num os,i),[]⟩,⟨b,some (λc _=>mmAt "min" r0 r1 m0 s0 c,j),[]⟩,⟨c,some (λc _=>mmAt "max" r0 r1 m1 s1 c,k),[]⟩,⟨d,some (λ_ os=>wR (zC 3) m0 m1 r' os,l),[]⟩]:=λa b c d i j k l r' e =>
  qa (λ_ _=>qlG) (qa (λ_ _=>(qk2 hs hm0).up) (qa (λ_ _=>(qk3 ht hm1).up) (qa (λ_ os=>(qap ((w8 (λp q=>p==m0&&q==m1) _ _).trans (hr.trans e))).up) B0)))
 cases r
 ·exact (C2 (qrg num tn tw r0 r1 m0 m1 s0 s1) (av _ _ _ _ _ _ _ _ _ rfl) (λ_ _ _ _=>key _ _ 0 _ _ 0))
 ·exact (C2 (qrf num tn tw r0 r1 m0 m1 s0 s1) (av _ _ _ _ _ _ _ _ _ rfl) (λ_ _ _ _=>key _ _ 0 _ _ 0))
noncomputable def qQ (b0 b1:Bool) (h0 h1:Int) (n:Nat) (ν:Nat→Nat):List T1:=yL (toldF (15-h0) (15-h1) (stI b0) (stI b1) n) (nuL ν 8 n)
noncomputable def yO (a b:Int):T1×T1:=(.bool (M6 (Builtin.Int.intBits a) 64||M6 (Builtin.Int.intBits b) 64), .bool true)
noncomputable def yC (x y:U2):T1×T1:=(.bool (@decide (x=y) (PySem.W.Fast.sDec x y)), .bool true)
noncomputable def sB (k:Nat):U2:=⟨⟨F2 k 111++[47,32,120]⟩⟩
noncomputable def qfc (b0 b1:Bool) (r0 r1 lead:Int) (n:Nat) (a:FA):List Prop:=[(((qQ b0 b1 (qb r0 lead) (qb r1 (-lead)) n (a.c 8)).length:Nat):Int)*stI b1=(((stN b1 n):Nat):Int)∧(stN b1 n)≤1000,(((qQ b0 b1 (qb r0 lead) (qb r1 (-lead)) n (a.c 8)).length:Nat):Int)*stI b0=(((stN b0 n):Nat):Int)∧(stN b0 n)≤1000,zT ((nuL (a.c 8) 1 (stN b1 n)).map .ref) (stN b1 n) [keyOf (nuL (a.c 8) 1 (stN b1 n)) (nuI (a.c 8) 5 (stN b1 n))]∧0≤(qb r1 (-lead))∧(qb r1 (-lead))≤17∧(stN b1 n)≤14,zT ((nuL (a.c 8) 0 (stN b0 n)).map .ref) (stN b0 n) [keyOf (nuL (a.c 8) 0 (stN b0 n)) (nuI (a.c 8) 2 (stN b0 n))]∧(qb r0 lead)+(((stN b0 n):Nat):Int)=15]
noncomputable def qlu:List Nat:=(hx 0x190a01e101746d2f65ad021b52e00d0fb58d1552e56d0f55d0e52e21d0f4bd0fc0102d0f4ad0852e80f4fd030020d06d0c0f50d54d15bce52d0f51d0cbce0a34e4dd015077ee14cd9f4ed4bd0021d4ad0002d0a0500749d0a1ee6211d0c1ee510d006016075ee46d0ebae00d0bd0047d0112f45d004544d0201a0f90f1a0f41f05d42d1598e40d0f3fd0e98e21d0f34d0698e09d0f33d0898eb0f20ed3100b2ce1510071de3531202d0f3ed103dd00230c13e2330020cd10f110615ec0bd2fa3bd158ee39d0f38d16e0e36d0be0e35d8f37d34d00533d0009d005d0a0a01e101721d2f632d021a52e00d1fb30d1552e2ed0f2dd0e52e02d0f23d0fc0107d0f22d0552e07c4e27d30020d06d0c1f28d2cd0a07e2f111f2ad0f29d3f51f20160f50f25d0150f40f124d9f26d23d0002d22d04e8e1072006d00c005d1fd01a0f90fa0f213d0f4de5093ee3531201d0f1dd101cd00211d0d4de10d104090190f80f18d0f20ed30a0fe3301410081de420010f1bd101ad0020cd100604e110020bd108019d0112f17d00510060616d0a11e40114040140f30f09d011400ad0112f08d0007d000809e202021f01d112f05d000d)
noncomputable def jE:List Nat:=hx 0x103d11d0cd06d02d13d12d10d0fd0ed0dd0bd0ad08d01d17d1fd05d04d
noncomputable def qlv (p:T4) (b0 b1:Bool) (r0 r1 lead:Int) (n:Nat) (tb:Obj) (f:Nat→Nat):List CH:=[(cX 4 (λc _=>jK lead (qe c 0) (qe c 1)) []),(cX 5 (λc _=>jK (-lead) (qe c 0) (qe c 1)) []),(cC 6 (yg p (qb r0 lead)) []),(cC 5 (yg p (qb r1 (-lead))) []),(cO 20 (qA (qb r0 lead) []) [13,14,2]),(cO 16 (qA (qb r1 (-lead)) []) [18,19,2]),(cO 7 (qeO p (fdK p) b0 b1 (qb r0 lead) (qb r1 (-lead)) n) (jE)),⟨92,some (λc os=>wE p (qb r0 lead) tb f (stN b0 n) c os,[10,11,12,13,14,2,3]),[0]⟩,(cO 9 (qA 0 [.x]) [13,14,2,59]),(cX 29 (λc os=>yU p (stN b0 n) c os) [10,11,12,13,14,2,3,59]),⟨5,some (λc os=>vK p (qb r1 (-lead)) (stN b1 n) c os,[15,16,17,18,19,2,3]),[1]⟩,(cC 40 (yh (stN b0 n)) []),(cC 1 (zc (oS (stN b0 n)) sT) []),(cC 24 (yh (stN b1 n)) []),(cC 1 (zc (oS (stN b1 n)) sE) [])]
noncomputable def qfb (b0 b1:Bool) (r0 r1 lead:Int) (n:Nat) (a:FA):List (T1×T1):=[yC (oS (stN b1 n)) (oS (stN b1 n)++sE),yC (sB (stN b0 n)) (oS (stN b0 n)++sT),qEq (15-(qb r1 (-lead))-n*stI b1) 0 false,yO (((qQ b0 b1 (qb r0 lead) (qb r1 (-lead)) n (a.c 8)).length:Nat):Int) (stI b1),qGe (((qQ b0 b1 (qb r0 lead) (qb r1 (-lead)) n (a.c 8)).length:Nat):Int) (2 ^ 63) false,qS (a.c 15 0+0),qEq (15-(qb r0 lead)-n*stI b0) 0 true,yO (((qQ b0 b1 (qb r0 lead) (qb r1 (-lead)) n (a.c 8)).length:Nat):Int) (stI b0),qGe (((qQ b0 b1 (qb r0 lead) (qb r1 (-lead)) n (a.c 8)).length:Nat):Int) (2 ^ 63) false,qS (a.c 13 0+9),qEq (15-(qb r1 (-lead))-n*stI b1) 0 false,qS (a.c 10 0+0),qEq (15-(qb r0 lead)-n*stI b0) 0 true,qS (a.c 8 0+22),qEq (15-(qb r1 (-lead))-n*stI b1) (15-(qb r1 (-lead))-(((qQ b0 b1 (qb r0 lead) (qb r1 (-lead)) n (a.c 8)).length:Nat):Int)*stI b1) true,qEq (15-(qb r0 lead)-n*stI b0) (15-(qb r0 lead)-(((qQ b0 b1 (qb r0 lead) (qb r1 (-lead)) n (a.c 8)).length:Nat):Int)*stI b0) true,yO (((qQ b0 b1 (qb r0 lead) (qb r1 (-lead)) n (a.c 8)).length:Nat):Int) (stI b1),qGe (((qQ b0 b1 (qb r0 lead) (qb r1 (-lead)) n (a.c 8)).length:Nat):Int) (2 ^ 63) false,qS (a.c 8 0+11),yO (((qQ b0 b1 (qb r0 lead) (qb r1 (-lead)) n (a.c 8)).length:Nat):Int) (stI b0),qGe (((qQ b0 b1 (qb r0 lead) (qb r1 (-lead)) n (a.c 8)).length:Nat):Int) (2 ^ 63) false,qS (a.c 8 0+7),qGe (qb r1 (-lead)) (2 ^ 63) false,qLt (qb r1 (-lead)) 0 false,qGe (qb r0 lead) (2 ^ 63) false,qLt (qb r0 lead) 0 false]
theorem qnT (b0 b1:Bool) (r0:Int) (t0':U1) (r1:Int) (t1':U1) (rv:Nat) (u0 u1:U1) (sn cd:Nat) (tb:Obj) (f:Nat→Nat) (lead:Int) (lt:U1) (n:Nat) (a0 a1:Nat):RunF w (zI b0 b1 r0 t0' r1 t1' rv u0 u1 sn cd tb (λν=>qn (f (ν 4))) lead lt n) 4 2165 [a0,a1,194,201] [31] qlu [(4, .bool false),oF,oF,oF,oT,(2, .bool false),oT,(2, .bool true),(2, .bool false),oT,(2, .bool true),oT,(1, .bool true),oT,(4, .bool true),oF,oT,(1, .bool false),oT,(2, .bool true),(1, .bool true),(1, .bool false),oT,(2, .bool false),(1, .bool true),oT] (qlv w.params b0 b1 r0 r1 lead n tb f) (λa N t0 gN=>qfb b0 b1 r0 r1 lead n a) (λa N t0 gN i=>match i with | 0=>a.c 6 0+2 | 1=>a.c 9 8 | i+2=>a.c 8 (i+5)) (λa N t0 gN=>qfc b0 b1 r0 r1 lead n a):=λN t0 gN a x y z=>by
 kernel_rfl
noncomputable def qe8 (b0 b1:Bool) (r0 r1 lead:Int) (n:Nat) (a:FA):List Prop:=[(((qQ b0 b1 (qb r0 lead) (qb r1 (-lead)) n (a.c 8)).length:Nat):Int)*stI b1=(((stN b1 n):Nat):Int)∧(stN b1 n)≤1000,(((qQ b0 b1 (qb r0 lead) (qb r1 (-lead)) n (a.c 8)).length:Nat):Int)*stI b0=(((stN b0 n):Nat):Int)∧(stN b0 n)≤1000,zT ((nuL (a.c 8) 0 (stN b0 n)).map .ref) (stN b0 n) [keyOf (nuL (a.c 8) 0 (stN b0 n)) (nuI (a.c 8) 2 (stN b0 n))]∧0≤(qb r0 lead)∧(qb r0 lead)≤17∧(stN b0 n)≤14,zT ((nuL (a.c 8) 1 (stN b1 n)).map .ref) (stN b1 n) [keyOf (nuL (a.c 8) 1 (stN b1 n)) (nuI (a.c 8) 5 (stN b1 n))]∧(qb r1 (-lead))+(((stN b1 n):Nat):Int)=15]
noncomputable def qlq:List Nat:=(hx 0x190a01e101746d2f65ad021b52e00d0fb58d1552e56d0f55d0e52e21d0f4bd0fc0102d0f4ad0852e80f4fd030020d06d0c0f50d54d0a07e2f111f52d0f51d3f51f20a34e4dd0150f40f14cd9f4ed4bd0021d4ad0002d0a0500749d0a1ee60e91e510d00601607afe46d20cd0c60e90bd0047d0112f45d004c44d020109d0f33d08dfeb0f213d3100b2ce1510071de3531202d0f42d1041d00230c13e23300211d10f110615e00d10d2fa3fd1547e3dd0f3cd0c47e0a0be801a0f90f1a0f41fa3bd158ee39d0f38d16e0e36d0be0e35d8f37d34d00533d0009d005d0a0a01e101721d2f632d021a52e00d1fb30d1552e2ed0f2dd0e52e02d0f23d0fc0107d0f22d0552e07c4e27d30020d06d0c1f28d2cd0a07e2f111f2ad0f29d3f51f20160f50f25d0150f40f124d9f26d23d0002d22d04e8e1072006d00c005d1fd01a0f90fa0f213d0f4de5093ee3531201d0f1dd101cd00211d0d4de10d104090190f80f18d0f20ed30a0fe3301410081de420010f1bd101ad0020cd100604e110020bd108019d0112f17d00510060616d0a11e40114040140f30f09d011400ad0112f08d0007d000809e202021f01d112f05d000d)
noncomputable def qlr (p:T4) (b0 b1:Bool) (r0 r1 lead:Int) (n:Nat) (tb:Obj) (f:Nat→Nat):List CH:=[(cX 4 (λc _=>jK lead (qe c 0) (qe c 1)) []),(cX 5 (λc _=>jK (-lead) (qe c 0) (qe c 1)) []),(cC 6 (yg p (qb r0 lead)) []),(cC 5 (yg p (qb r1 (-lead))) []),(cO 20 (qA (qb r0 lead) []) [13,14,2]),(cO 16 (qA (qb r1 (-lead)) []) [18,19,2]),(cO 7 (qeO p (fdK p) b0 b1 (qb r0 lead) (qb r1 (-lead)) n) (jE)),⟨107,some (λc os=>wE p (qb r1 (-lead)) tb f (stN b1 n) c os,[15,16,17,18,19,2,3]),[1]⟩,(cO 9 (qA 0 [.x]) [18,19,2,63]),⟨14,some (λc os=>vK p (qb r0 lead) (stN b0 n) c os,[10,11,12,13,14,2,3]),[0]⟩,(cX 5 (λc os=>yU p (stN b1 n) c os) [15,16,17,18,19,2,3,63]),(cC 40 (yh (stN b0 n)) []),(cC 1 (zc (oS (stN b0 n)) sE) []),(cC 24 (yh (stN b1 n)) []),(cC 1 (zc (oS (stN b1 n)) sT) [])]
noncomputable def qe7 (b0 b1:Bool) (r0 r1 lead:Int) (n:Nat) (a:FA):List (T1×T1):=[yC (sB (stN b1 n)) (oS (stN b1 n)++sT),yC (oS (stN b0 n)) (oS (stN b0 n)++sE),qEq (15-(qb r1 (-lead))-n*stI b1) 0 true,yO (((qQ b0 b1 (qb r0 lead) (qb r1 (-lead)) n (a.c 8)).length:Nat):Int) (stI b1),qGe (((qQ b0 b1 (qb r0 lead) (qb r1 (-lead)) n (a.c 8)).length:Nat):Int) (2 ^ 63) false,qS (a.c 15 0+0),qEq (15-(qb r0 lead)-n*stI b0) 0 false,yO (((qQ b0 b1 (qb r0 lead) (qb r1 (-lead)) n (a.c 8)).length:Nat):Int) (stI b0),qGe (((qQ b0 b1 (qb r0 lead) (qb r1 (-lead)) n (a.c 8)).length:Nat):Int) (2 ^ 63) false,qS (a.c 13 0+9),qEq (15-(qb r1 (-lead))-n*stI b1) 0 true,qS (a.c 8 0+26),qEq (15-(qb r0 lead)-n*stI b0) 0 false,qS (a.c 8 0+22),qEq (15-(qb r1 (-lead))-n*stI b1) (15-(qb r1 (-lead))-(((qQ b0 b1 (qb r0 lead) (qb r1 (-lead)) n (a.c 8)).length:Nat):Int)*stI b1) true,qEq (15-(qb r0 lead)-n*stI b0) (15-(qb r0 lead)-(((qQ b0 b1 (qb r0 lead) (qb r1 (-lead)) n (a.c 8)).length:Nat):Int)*stI b0) true,yO (((qQ b0 b1 (qb r0 lead) (qb r1 (-lead)) n (a.c 8)).length:Nat):Int) (stI b1),qGe (((qQ b0 b1 (qb r0 lead) (qb r1 (-lead)) n (a.c 8)).length:Nat):Int) (2 ^ 63) false,qS (a.c 8 0+11),yO (((qQ b0 b1 (qb r0 lead) (qb r1 (-lead)) n (a.c 8)).length:Nat):Int) (stI b0),qGe (((qQ b0 b1 (qb r0 lead) (qb r1 (-lead)) n (a.c 8)).length:Nat):Int) (2 ^ 63) false,qS (a.c 8 0+7),qGe (qb r1 (-lead)) (2 ^ 63) false,qLt (qb r1 (-lead)) 0 false,qGe (qb r0 lead) (2 ^ 63) false,qLt (qb r0 lead) 0 false]
theorem qnP (b0 b1:Bool) (r0:Int) (t0':U1) (r1:Int) (t1':U1) (rv:Nat) (u0 u1:U1) (sn cd:Nat) (tb:Obj) (f:Nat→Nat) (lead:Int) (lt:U1) (n:Nat) (a0 a1:Nat):RunF w (zI b0 b1 r0 t0' r1 t1' rv u0 u1 sn cd tb (λν=>qn (f (ν 4))) lead lt n) 4 2165 [a0,a1,194,201] [31] qlq [(4, .bool false),oF,oF,oF,oT,(2, .bool false),oT,(2, .bool true),(2, .bool false),oT,(2, .bool true),oT,(1, .bool true),oF,oT,oT,(4, .bool true),(1, .bool false),oT,(2, .bool false),(1, .bool true),(1, .bool false),oT,(2, .bool true),(1, .bool true),oT] (qlr w.params b0 b1 r0 r1 lead n tb f) (λa N t0 gN=>qe7 b0 b1 r0 r1 lead n a) (λa N t0 gN i=>match i with | 0=>a.c 6 0+2 | 1=>a.c 9 8 | i+2=>a.c 8 (i+5)) (λa N t0 gN=>qe8 b0 b1 r0 r1 lead n a):=λN t0 gN a x y z=>by
 kernel_rfl
noncomputable def qe4 (b0 b1:Bool) (r0 r1 lead:Int) (n:Nat) (a:FA):List Prop:=[(((qQ b0 b1 (qb r0 lead) (qb r1 (-lead)) n (a.c 8)).length:Nat):Int)*stI b1=(((stN b1 n):Nat):Int)∧(stN b1 n)≤1000,(((qQ b0 b1 (qb r0 lead) (qb r1 (-lead)) n (a.c 8)).length:Nat):Int)*stI b0=(((stN b0 n):Nat):Int)∧(stN b0 n)≤1000,zT ((nuL (a.c 8) 1 (stN b1 n)).map .ref) (stN b1 n) [keyOf (nuL (a.c 8) 1 (stN b1 n)) (nuI (a.c 8) 5 (stN b1 n))]∧(qb r1 (-lead))+(((stN b1 n):Nat):Int)=15,zT ((nuL (a.c 8) 0 (stN b0 n)).map .ref) (stN b0 n) [keyOf (nuL (a.c 8) 0 (stN b0 n)) (nuI (a.c 8) 2 (stN b0 n))]∧(qb r0 lead)+(((stN b0 n):Nat):Int)=15]
noncomputable def qlm:List Nat:=(hx 0x190a01e101749d2f65dd021b52e00d0fb5bd1552e59d0f58d0e52e21d0f4ed0fc0102d0f4dd0852e80f52d030020d06d0c0f53d57d0a07e2f111f55d0f54d3f51f20a34e50d0150f40f14fd9f51d4ed0021d4dd0002d0a050074cd0a1ee60e91e510d00601607afe49d20cd0c60e90bd004ad0112f48d004c47d021498e13d1e98e03d0f45d1044d1698e11d0d98e10d2f05d42d1598e40d0f3fd0e98e21d0f34d0698e09d0f33d0898eb0f20ed3100b2ce1510071de3531202d0f3ed103dd00230c13e2330020cd10f110615ec0bd2fa3bd158ee39d0f38d16e0e36d0be0e35d8f37d34d00533d0009d005d0a0a01e101721d2f632d021a52e00d1fb30d1552e2ed0f2dd0e52e02d0f23d0fc0107d0f22d0552e07c4e27d30020d06d0c1f28d2cd0a07e2f111f2ad0f29d3f51f20160f50f25d0150f40f124d9f26d23d0002d22d04e8e1072006d00c005d1fd01a0f90fa0f213d0f4de5093ee3531201d0f1dd101cd00211d0d4de10d104090190f80f18d0f20ed30a0fe3301410081de420010f1bd101ad0020cd100604e110020bd108019d0112f17d00510060616d0a11e40114040140f30f09d011400ad0112f08d0007d000809e202021f01d112f05d000d)
noncomputable def qln (p:T4) (b0 b1:Bool) (r0 r1 lead:Int) (n:Nat) (tb:Obj) (f:Nat→Nat):List CH:=[(cX 4 (λc _=>jK lead (qe c 0) (qe c 1)) []),(cX 5 (λc _=>jK (-lead) (qe c 0) (qe c 1)) []),(cC 6 (yg p (qb r0 lead)) []),(cC 5 (yg p (qb r1 (-lead))) []),(cO 20 (qA (qb r0 lead) []) [13,14,2]),(cO 16 (qA (qb r1 (-lead)) []) [18,19,2]),(cO 7 (qeO p (fdK p) b0 b1 (qb r0 lead) (qb r1 (-lead)) n) (jE)),⟨92,some (λc os=>wE p (qb r0 lead) tb f (stN b0 n) c os,[10,11,12,13,14,2,3]),[0]⟩,(cO 9 (qA 0 [.x]) [13,14,2,59]),⟨17,some (λc os=>wE p (qb r1 (-lead)) (qn (yo (at0 os 6))) (λ_=>yo (at0 os 6)) (stN b1 n) c os,[15,16,17,18,19,2,3]),[1]⟩,(cO 9 (qA 0 [.x]) [18,19,2,66]),(cX 14 (λc os=>yU p (stN b0 n) c os) [10,11,12,13,14,2,3,59]),(cX 5 (λc os=>yU p (stN b1 n) c os) [15,16,17,18,19,2,3,66]),(cC 40 (yh (stN b0 n)) []),(cC 1 (zc (oS (stN b0 n)) sT) []),(cC 24 (yh (stN b1 n)) []),(cC 1 (zc (oS (stN b1 n)) sT) [])]
noncomputable def qe3 (b0 b1:Bool) (r0 r1 lead:Int) (n:Nat) (a:FA):List (T1×T1):=[yC (sB (stN b1 n)) (oS (stN b1 n)++sT),yC (sB (stN b0 n)) (oS (stN b0 n)++sT),qEq (15-(qb r1 (-lead))-n*stI b1) 0 true,yO (((qQ b0 b1 (qb r0 lead) (qb r1 (-lead)) n (a.c 8)).length:Nat):Int) (stI b1),qGe (((qQ b0 b1 (qb r0 lead) (qb r1 (-lead)) n (a.c 8)).length:Nat):Int) (2 ^ 63) false,qS (a.c 18 0+0),qEq (15-(qb r0 lead)-n*stI b0) 0 true,yO (((qQ b0 b1 (qb r0 lead) (qb r1 (-lead)) n (a.c 8)).length:Nat):Int) (stI b0),qGe (((qQ b0 b1 (qb r0 lead) (qb r1 (-lead)) n (a.c 8)).length:Nat):Int) (2 ^ 63) false,qS (a.c 16 0+9),qEq (15-(qb r1 (-lead))-n*stI b1) 0 true,qS (a.c 10 0+0),qEq (15-(qb r0 lead)-n*stI b0) 0 true,qS (a.c 8 0+22),qEq (15-(qb r1 (-lead))-n*stI b1) (15-(qb r1 (-lead))-(((qQ b0 b1 (qb r0 lead) (qb r1 (-lead)) n (a.c 8)).length:Nat):Int)*stI b1) true,qEq (15-(qb r0 lead)-n*stI b0) (15-(qb r0 lead)-(((qQ b0 b1 (qb r0 lead) (qb r1 (-lead)) n (a.c 8)).length:Nat):Int)*stI b0) true,yO (((qQ b0 b1 (qb r0 lead) (qb r1 (-lead)) n (a.c 8)).length:Nat):Int) (stI b1),qGe (((qQ b0 b1 (qb r0 lead) (qb r1 (-lead)) n (a.c 8)).length:Nat):Int) (2 ^ 63) false,qS (a.c 8 0+11),yO (((qQ b0 b1 (qb r0 lead) (qb r1 (-lead)) n (a.c 8)).length:Nat):Int) (stI b0),qGe (((qQ b0 b1 (qb r0 lead) (qb r1 (-lead)) n (a.c 8)).length:Nat):Int) (2 ^ 63) false,qS (a.c 8 0+7),qGe (qb r1 (-lead)) (2 ^ 63) false,qLt (qb r1 (-lead)) 0 false,qGe (qb r0 lead) (2 ^ 63) false,qLt (qb r0 lead) 0 false]
theorem qnL (b0 b1:Bool) (r0:Int) (t0':U1) (r1:Int) (t1':U1) (rv:Nat) (u0 u1:U1) (sn cd:Nat) (tb:Obj) (f:Nat→Nat) (lead:Int) (lt:U1) (n:Nat) (a0 a1:Nat):RunF w (zI b0 b1 r0 t0' r1 t1' rv u0 u1 sn cd tb (λν=>qn (f (ν 4))) lead lt n) 4 2314 [a0,a1,194,201] [31] qlm [(4, .bool false),oF,oF,oF,oT,(2, .bool false),oT,(2, .bool true),(2, .bool false),oT,(2, .bool true),oT,(1, .bool true),oT,(4, .bool true),oT,(4, .bool true),(1, .bool false),oT,(2, .bool true),(1, .bool true),(1, .bool false),oT,(2, .bool true),(1, .bool true),oT] (qln w.params b0 b1 r0 r1 lead n tb f) (λa N t0 gN=>qe3 b0 b1 r0 r1 lead n a) (λa N t0 gN i=>match i with | 0=>a.c 6 0+2 | 1=>a.c 9 8 | i+2=>a.c 8 (i+5)) (λa N t0 gN=>qe4 b0 b1 r0 r1 lead n a):=λN t0 gN a x y z=>by
 kernel_rfl
noncomputable def qfe (b0 b1:Bool) (r0 r1 lead:Int) (n:Nat) (a:FA):List Prop:=[0*stI b1=((0:Nat):Int)∧0≤1000,0*stI b0=((0:Nat):Int)∧0≤1000,zT [] 0 []∧0≤(qb r1 (-lead))∧(qb r1 (-lead))≤17∧0≤14,zT [] 0 []∧(qb r0 lead)+((0:Nat):Int)=15]
noncomputable def qlw:List Nat:=(hx 0x190a01e101745d2f659d021b52e00d0fb57d1552e55d0f54d0e52e18d0f4ad0fc0102d0f49d0852e80f4ed030020d06d0c0f4fd53d15bce51d0f50d0cbce0a34e4cd015077ee14bd9f4dd4ad0018d49d0002d0a0500748d0a1ee6211d0c1ee510d006016075ee45d0ebae00d0bd0046d0112f44d004543d0201a0f90f1a0f41f05d41d1598e3fd0f3ed0e98e18d0f33d0698e09d0f32d0898eb0f20ed3100b2ce1510071de3531202d0f3dd103cd00230c13e2330020cd10f110615ec0bd2fa3ad158ee38d0f37d16e0e35d0be0e34d8f36d33d00532d0009d005d0a0a01e101718d2f631d021a52e00d1fb2fd1552e2dd0f2cd0e52e02d0f22d0fc0107d0f21d0552e07c4e26d30020d06d0c1f27d2bd0a07e2f111f29d0f28d3f51f20160f50f24d0150f40f123d9f25d22d0002d21d04e8e1072006d00c005d1fd01a0f90fa0f213d0f4de5093ee3531201d0f1dd101cd00211d0d4de10d104090190f80f18d0f20ed30a0fe3301410081de420010f1bd101ad0020cd100604e110020bd108019d0112f17d00510060616d0a11e40114040140f30f09d011400ad0112f08d0007d000809e202021f01d112f05d000d)
noncomputable def qlx (p:T4) (b0 b1:Bool) (r0 r1 lead:Int) (n:Nat) (tb:Obj) (f:Nat→Nat):List CH:=[(cX 4 (λc _=>jK lead (qe c 0) (qe c 1)) []),(cX 5 (λc _=>jK (-lead) (qe c 0) (qe c 1)) []),(cC 6 (yg p (qb r0 lead)) []),(cC 5 (yg p (qb r1 (-lead))) []),(cO 20 (qA (qb r0 lead) []) [13,14,2]),(cO 16 (qA (qb r1 (-lead)) []) [18,19,2]),(cO 7 (qcg p (fdK p) (stI b0) (stI b1) (qb r0 lead) (qb r1 (-lead))) (jE)),(cX 92 (λc os=>wE p (qb r0 lead) tb f 0 c os) [10,11,12,13,14,2,3]),(cO 9 (qA 0 [.x]) [13,14,2,58]),(cX 29 (λc os=>yU p 0 c os) [10,11,12,13,14,2,3,58]),(cX 5 (λc os=>vK p (qb r1 (-lead)) 0 c os) [15,16,17,18,19,2,3]),(cC 40 (yh 0) []),(cC 1 (zc (oS 0) sT) []),(cC 24 (yh 0) []),(cC 1 (zc (oS 0) sE) [])]
noncomputable def qfd (b0 b1:Bool) (r0 r1 lead:Int) (n:Nat) (a:FA):List (T1×T1):=[yC (oS 0) (oS 0++sE),yC (sB 0) (oS 0++sT),qEq (15-(qb r1 (-lead))) 0 false,qS (a.c 15 0+0),qEq (15-(qb r0 lead)) 0 true,qS (a.c 13 0+9),qEq (15-(qb r1 (-lead))) 0 false,qS (a.c 10 0+0),qEq (15-(qb r0 lead)) 0 true,qS (a.c 8 0+22),qEq (15-(qb r1 (-lead))) (15-(qb r1 (-lead))-0*stI b1) true,qEq (15-(qb r0 lead)) (15-(qb r0 lead)-0*stI b0) true,qS (a.c 8 0+11),qS (a.c 8 0+7),qGe (qb r1 (-lead)) (2 ^ 63) false,qLt (qb r1 (-lead)) 0 false,qGe (qb r0 lead) (2 ^ 63) false,qLt (qb r0 lead) 0 false]
theorem qnV (b0 b1:Bool) (r0:Int) (t0':U1) (r1:Int) (t1':U1) (rv:Nat) (u0 u1:U1) (sn cd:Nat) (tb:Obj) (f:Nat→Nat) (lead:Int) (lt:U1) (n:Nat) (a0 a1:Nat):RunF w (zI b0 b1 r0 t0' r1 t1' rv u0 u1 sn cd tb (λν=>qn (f (ν 4))) lead lt 0) 4 2165 [a0,a1,194,201] [31] qlw [(4, .bool false),oF,oF,oF,oT,(6, .bool true),(6, .bool true),oT,(1, .bool true),oT,(4, .bool true),oF,oT,(5, .bool true),(1, .bool true),(5, .bool false),(1, .bool true),oT] (qlx w.params b0 b1 r0 r1 lead n tb f) (λa N t0 gN=>qfd b0 b1 r0 r1 lead n a) (λa N t0 gN i=>match i with | 0=>a.c 6 0+2 | 1=>a.c 9 8 | i+2=>a.c 8 (i+5)) (λa N t0 gN=>qfe b0 b1 r0 r1 lead n a):=λN t0 gN a x y z=>by
 kernel_rfl
noncomputable def qfa (b0 b1:Bool) (r0 r1 lead:Int) (n:Nat) (a:FA):List Prop:=[0*stI b1=((0:Nat):Int)∧0≤1000,0*stI b0=((0:Nat):Int)∧0≤1000,zT [] 0 []∧0≤(qb r0 lead)∧(qb r0 lead)≤17∧0≤14,zT [] 0 []∧(qb r1 (-lead))+((0:Nat):Int)=15]
noncomputable def qls:List Nat:=(hx 0x190a01e101745d2f659d021b52e00d0fb57d1552e55d0f54d0e52e18d0f4ad0fc0102d0f49d0852e80f4ed030020d06d0c0f4fd53d0a07e2f111f51d0f50d3f51f20a34e4cd0150f40f14bd9f4dd4ad0018d49d0002d0a0500748d0a1ee60e91e510d00601607afe45d20cd0c60e90bd0046d0112f44d004c43d020109d0f32d08dfeb0f213d3100b2ce1510071de3531202d0f41d1040d00230c13e23300211d10f110615e00d10d2fa3ed1547e3cd0f3bd0c47e0a0be801a0f90f1a0f41fa3ad158ee38d0f37d16e0e35d0be0e34d8f36d33d00532d0009d005d0a0a01e101718d2f631d021a52e00d1fb2fd1552e2dd0f2cd0e52e02d0f22d0fc0107d0f21d0552e07c4e26d30020d06d0c1f27d2bd0a07e2f111f29d0f28d3f51f20160f50f24d0150f40f123d9f25d22d0002d21d04e8e1072006d00c005d1fd01a0f90fa0f213d0f4de5093ee3531201d0f1dd101cd00211d0d4de10d104090190f80f18d0f20ed30a0fe3301410081de420010f1bd101ad0020cd100604e110020bd108019d0112f17d00510060616d0a11e40114040140f30f09d011400ad0112f08d0007d000809e202021f01d112f05d000d)
noncomputable def qlt (p:T4) (b0 b1:Bool) (r0 r1 lead:Int) (n:Nat) (tb:Obj) (f:Nat→Nat):List CH:=[(cX 4 (λc _=>jK lead (qe c 0) (qe c 1)) []),(cX 5 (λc _=>jK (-lead) (qe c 0) (qe c 1)) []),(cC 6 (yg p (qb r0 lead)) []),(cC 5 (yg p (qb r1 (-lead))) []),(cO 20 (qA (qb r0 lead) []) [13,14,2]),(cO 16 (qA (qb r1 (-lead)) []) [18,19,2]),(cO 7 (qcg p (fdK p) (stI b0) (stI b1) (qb r0 lead) (qb r1 (-lead))) (jE)),(cX 107 (λc os=>wE p (qb r1 (-lead)) tb f 0 c os) [15,16,17,18,19,2,3]),(cO 9 (qA 0 [.x]) [18,19,2,62]),(cX 14 (λc os=>vK p (qb r0 lead) 0 c os) [10,11,12,13,14,2,3]),(cX 5 (λc os=>yU p 0 c os) [15,16,17,18,19,2,3,62]),(cC 40 (yh 0) []),(cC 1 (zc (oS 0) sE) []),(cC 24 (yh 0) []),(cC 1 (zc (oS 0) sT) [])]
noncomputable def qe9 (b0 b1:Bool) (r0 r1 lead:Int) (n:Nat) (a:FA):List (T1×T1):=[yC (sB 0) (oS 0++sT),yC (oS 0) (oS 0++sE),qEq (15-(qb r1 (-lead))) 0 true,qS (a.c 15 0+0),qEq (15-(qb r0 lead)) 0 false,qS (a.c 13 0+9),qEq (15-(qb r1 (-lead))) 0 true,qS (a.c 8 0+26),qEq (15-(qb r0 lead)) 0 false,qS (a.c 8 0+22),qEq (15-(qb r1 (-lead))) (15-(qb r1 (-lead))-0*stI b1) true,qEq (15-(qb r0 lead)) (15-(qb r0 lead)-0*stI b0) true,qS (a.c 8 0+11),qS (a.c 8 0+7),qGe (qb r1 (-lead)) (2 ^ 63) false,qLt (qb r1 (-lead)) 0 false,qGe (qb r0 lead) (2 ^ 63) false,qLt (qb r0 lead) 0 false]
theorem qnR (b0 b1:Bool) (r0:Int) (t0':U1) (r1:Int) (t1':U1) (rv:Nat) (u0 u1:U1) (sn cd:Nat) (tb:Obj) (f:Nat→Nat) (lead:Int) (lt:U1) (n:Nat) (a0 a1:Nat):RunF w (zI b0 b1 r0 t0' r1 t1' rv u0 u1 sn cd tb (λν=>qn (f (ν 4))) lead lt 0) 4 2165 [a0,a1,194,201] [31] qls [(4, .bool false),oF,oF,oF,oT,(6, .bool true),(6, .bool true),oT,(1, .bool true),oF,oT,oT,(4, .bool true),(5, .bool false),(1, .bool true),(5, .bool true),(1, .bool true),oT] (qlt w.params b0 b1 r0 r1 lead n tb f) (λa N t0 gN=>qe9 b0 b1 r0 r1 lead n a) (λa N t0 gN i=>match i with | 0=>a.c 6 0+2 | 1=>a.c 9 8 | i+2=>a.c 8 (i+5)) (λa N t0 gN=>qfa b0 b1 r0 r1 lead n a):=λN t0 gN a x y z=>by
 kernel_rfl
noncomputable def qe6 (b0 b1:Bool) (r0 r1 lead:Int) (n:Nat) (a:FA):List Prop:=[0*stI b1=((0:Nat):Int)∧0≤1000,0*stI b0=((0:Nat):Int)∧0≤1000,zT [] 0 []∧(qb r1 (-lead))+((0:Nat):Int)=15,zT [] 0 []∧(qb r0 lead)+((0:Nat):Int)=15]
noncomputable def qlo:List Nat:=(hx 0x190a01e101748d2f65cd021b52e00d0fb5ad1552e58d0f57d0e52e18d0f4dd0fc0102d0f4cd0852e80f51d030020d06d0c0f52d56d0a07e2f111f54d0f53d3f51f20a34e4fd0150f40f14ed9f50d4dd0018d4cd0002d0a050074bd0a1ee60e91e510d00601607afe48d20cd0c60e90bd0049d0112f47d004c46d021498e13d1e98e03d0f44d1043d1698e11d0d98e10d2f05d41d1598e3fd0f3ed0e98e18d0f33d0698e09d0f32d0898eb0f20ed3100b2ce1510071de3531202d0f3dd103cd00230c13e2330020cd10f110615ec0bd2fa3ad158ee38d0f37d16e0e35d0be0e34d8f36d33d00532d0009d005d0a0a01e101718d2f631d021a52e00d1fb2fd1552e2dd0f2cd0e52e02d0f22d0fc0107d0f21d0552e07c4e26d30020d06d0c1f27d2bd0a07e2f111f29d0f28d3f51f20160f50f24d0150f40f123d9f25d22d0002d21d04e8e1072006d00c005d1fd01a0f90fa0f213d0f4de5093ee3531201d0f1dd101cd00211d0d4de10d104090190f80f18d0f20ed30a0fe3301410081de420010f1bd101ad0020cd100604e110020bd108019d0112f17d00510060616d0a11e40114040140f30f09d011400ad0112f08d0007d000809e202021f01d112f05d000d)
noncomputable def qlp (p:T4) (b0 b1:Bool) (r0 r1 lead:Int) (n:Nat) (tb:Obj) (f:Nat→Nat):List CH:=[(cX 4 (λc _=>jK lead (qe c 0) (qe c 1)) []),(cX 5 (λc _=>jK (-lead) (qe c 0) (qe c 1)) []),(cC 6 (yg p (qb r0 lead)) []),(cC 5 (yg p (qb r1 (-lead))) []),(cO 20 (qA (qb r0 lead) []) [13,14,2]),(cO 16 (qA (qb r1 (-lead)) []) [18,19,2]),(cO 7 (qcg p (fdK p) (stI b0) (stI b1) (qb r0 lead) (qb r1 (-lead))) (jE)),(cX 92 (λc os=>wE p (qb r0 lead) tb f 0 c os) [10,11,12,13,14,2,3]),(cO 9 (qA 0 [.x]) [13,14,2,58]),(cX 17 (λc os=>wE p (qb r1 (-lead)) (qn (yo (at0 os 6))) (λ_=>yo (at0 os 6)) 0 c os) [15,16,17,18,19,2,3]),(cO 9 (qA 0 [.x]) [18,19,2,65]),(cX 14 (λc os=>yU p 0 c os) [10,11,12,13,14,2,3,58]),(cX 5 (λc os=>yU p 0 c os) [15,16,17,18,19,2,3,65]),(cC 40 (yh 0) []),(cC 1 (zc (oS 0) sT) []),(cC 24 (yh 0) []),(cC 1 (zc (oS 0) sT) [])]
noncomputable def qe5 (b0 b1:Bool) (r0 r1 lead:Int) (n:Nat) (a:FA):List (T1×T1):=[yC (sB 0) (oS 0++sT),yC (sB 0) (oS 0++sT),qEq (15-(qb r1 (-lead))) 0 true,qS (a.c 18 0+0),qEq (15-(qb r0 lead)) 0 true,qS (a.c 16 0+9),qEq (15-(qb r1 (-lead))) 0 true,qS (a.c 10 0+0),qEq (15-(qb r0 lead)) 0 true,qS (a.c 8 0+22),qEq (15-(qb r1 (-lead))) (15-(qb r1 (-lead))-0*stI b1) true,qEq (15-(qb r0 lead)) (15-(qb r0 lead)-0*stI b0) true,qS (a.c 8 0+11),qS (a.c 8 0+7),qGe (qb r1 (-lead)) (2 ^ 63) false,qLt (qb r1 (-lead)) 0 false,qGe (qb r0 lead) (2 ^ 63) false,qLt (qb r0 lead) 0 false]
theorem qnN (b0 b1:Bool) (r0:Int) (t0':U1) (r1:Int) (t1':U1) (rv:Nat) (u0 u1:U1) (sn cd:Nat) (tb:Obj) (f:Nat→Nat) (lead:Int) (lt:U1) (n:Nat) (a0 a1:Nat):RunF w (zI b0 b1 r0 t0' r1 t1' rv u0 u1 sn cd tb (λν=>qn (f (ν 4))) lead lt 0) 4 2314 [a0,a1,194,201] [31] qlo [(4, .bool false),oF,oF,oF,oT,(6, .bool true),(6, .bool true),oT,(1, .bool true),oT,(4, .bool true),oT,(4, .bool true),(5, .bool true),(1, .bool true),(5, .bool true),(1, .bool true),oT] (qlp w.params b0 b1 r0 r1 lead n tb f) (λa N t0 gN=>qe5 b0 b1 r0 r1 lead n a) (λa N t0 gN i=>match i with | 0=>a.c 6 0+2 | 1=>a.c 9 8 | i+2=>a.c 8 (i+5)) (λa N t0 gN=>qe6 b0 b1 r0 r1 lead n a):=λN t0 gN a x y z=>by
 kernel_rfl
noncomputable def qe2 (b0 b1:Bool) (r0 r1 lead:Int) (n:Nat) (a:FA):List Prop:=[0*stI b1=((0:Nat):Int)∧0≤1000,0*stI b0=((0:Nat):Int)∧0≤1000,zT [] 0 []∧0≤(qb r1 (-lead))∧(qb r1 (-lead))≤17∧0≤14,zT [] 0 []∧0≤(qb r0 lead)∧(qb r0 lead)≤17∧0≤14]
noncomputable def qlk:List Nat:=(hx 0x190a01e101742d2f656d021b52e00d0fb54d1552e52d0f51d0e52e18d0f47d0fc0102d0f46d0852e80f4bd030020d06d0c0f4cd50d15bce4ed0f4dd0cbce0a34e49d015077ee148d9f4ad47d0018d46d0002d0a0500745d0a1ee6211d0c1ee510d0060ab1e42d20cd10f110637e00d0bd0043d0112f41d004540d021547e3ed1547e3cd0f3bd0c47e0a0be801a0f90f1a0f41fa3ad158ee38d0f37d16e0e35d0be0e34d8f36d33d00532d0009d005d0a0a01e101718d2f631d021a52e00d1fb2fd1552e2dd0f2cd0e52e02d0f22d0fc0107d0f21d0552e07c4e26d30020d06d0c1f27d2bd0a07e2f111f29d0f28d3f51f20160f50f24d0150f40f123d9f25d22d0002d21d04e8e1072006d00c005d1fd01a0f90fa0f213d0f4de5093ee3531201d0f1dd101cd00211d0d4de10d104090190f80f18d0f20ed30a0fe3301410081de420010f1bd101ad0020cd100604e110020bd108019d0112f17d00510060616d0a11e40114040140f30f09d011400ad0112f08d0007d000809e202021f01d112f05d000d)
noncomputable def qll (p:T4) (b0 b1:Bool) (r0 r1 lead:Int) (n:Nat) (tb:Obj) (f:Nat→Nat):List CH:=[(cX 4 (λc _=>jK lead (qe c 0) (qe c 1)) []),(cX 5 (λc _=>jK (-lead) (qe c 0) (qe c 1)) []),(cC 6 (yg p (qb r0 lead)) []),(cC 5 (yg p (qb r1 (-lead))) []),(cO 20 (qA (qb r0 lead) []) [13,14,2]),(cO 16 (qA (qb r1 (-lead)) []) [18,19,2]),(cO 7 (qcg p (fdK p) (stI b0) (stI b1) (qb r0 lead) (qb r1 (-lead))) (jE)),(cX 119 (λc os=>vK p (qb r0 lead) 0 c os) [10,11,12,13,14,2,3]),(cX 5 (λc os=>vK p (qb r1 (-lead)) 0 c os) [15,16,17,18,19,2,3]),(cC 40 (yh 0) []),(cC 1 (zc (oS 0) sE) []),(cC 24 (yh 0) []),(cC 1 (zc (oS 0) sE) [])]
noncomputable def qe1 (b0 b1:Bool) (r0 r1 lead:Int) (n:Nat) (a:FA):List (T1×T1):=[yC (oS 0) (oS 0++sE),yC (oS 0) (oS 0++sE),qEq (15-(qb r1 (-lead))) 0 false,qS (a.c 12 0+0),qEq (15-(qb r0 lead)) 0 false,qS (a.c 10 0+9),qEq (15-(qb r1 (-lead))) 0 false,qS (a.c 8 0+26),qEq (15-(qb r0 lead)) 0 false,qS (a.c 8 0+22),qEq (15-(qb r1 (-lead))) (15-(qb r1 (-lead))-0*stI b1) true,qEq (15-(qb r0 lead)) (15-(qb r0 lead)-0*stI b0) true,qS (a.c 8 0+11),qS (a.c 8 0+7),qGe (qb r1 (-lead)) (2 ^ 63) false,qLt (qb r1 (-lead)) 0 false,qGe (qb r0 lead) (2 ^ 63) false,qLt (qb r0 lead) 0 false]
theorem qnJ (b0 b1:Bool) (r0:Int) (t0':U1) (r1:Int) (t1':U1) (rv:Nat) (u0 u1:U1) (sn cd:Nat) (c:Nat) (lead:Int) (lt:U1) (n:Nat) (a0 a1:Nat):RunF w (zI b0 b1 r0 t0' r1 t1' rv u0 u1 sn cd (qn c) (λν=>qn ((λ_=>c) (ν 4))) lead lt 0) 4 2016 [a0,a1,194,201] [31] qlk [(4, .bool false),oF,oF,oF,oT,(6, .bool true),(6, .bool true),oT,(1, .bool true),oF,oT,oF,oT,(5, .bool false),(1, .bool true),(5, .bool false),(1, .bool true),oT] (qll w.params b0 b1 r0 r1 lead n (qn c) (λ_=>c)) (λa N t0 gN=>qe1 b0 b1 r0 r1 lead n a) (λa N t0 gN i=>match i with | 0=>a.c 6 0+2 | 1=>a.c 9 8 | i+2=>a.c 8 (i+5)) (λa N t0 gN=>qe2 b0 b1 r0 r1 lead n a):=λN t0 gN a x y z=>by
 kernel_rfl
theorem qqf (a:Int):0≤mx a:=by
 unfold mx
 split
 ·rename_i h;exact of_decide_eq_true h
 ·exact R8 _
theorem qqe {a:Int} (h:a≤2):mx a≤2:=by
 unfold mx
 split
 ·exact h
 ·decide
structure jD (b0 b1:Bool) (r0 r1 lead:Int) (n:Nat):Prop where
 hb:(b0||b1)=true
 p0:0≤r0
 q0:r0≤15
 p1:0≤r1
 q1:r1≤15
 d0 : -2≤lead
 d1:lead≤2
 n15:n≤15
 c0:n=0→15-qb r0 lead<stI b0∨15-qb r1 (-lead)<stI b1
 c1:0<n→n*stI b0≤15-qb r0 lead∧n*stI b1≤15-qb r1 (-lead)∧(15-qb r0 lead-n*stI b0<stI b0∨15-qb r1 (-lead)-n*stI b1<stI b1)
structure qsS (b0 b1:Bool) (r0 r1 lead:Int) (n:Nat):Prop where
 h0:0≤qb r0 lead
 g0:qb r0 lead≤17
 h1:0≤qb r1 (-lead)
 g1:qb r1 (-lead)≤17
 e0:(n:Int)*stI b0=((stN b0 n:Nat):Int)
 e1:(n:Int)*stI b1=((stN b1 n:Nat):Int)
 k0:stN b0 n≤15
 k1:stN b1 n≤15
theorem jD.f {b0 b1:Bool} {r0 r1 lead:Int} {n:Nat} (G:jD b0 b1 r0 r1 lead n):qsS b0 b1 r0 r1 lead n:=by
 have a1:=qqf lead
 have a2:=qqf (-lead)
 have a3:=qqe G.d1
 have a4:=qqe (a := -lead) (by have:=G.d0;lia)
 have z:=G.n15
 have z0:=G.p0
 have z1:=G.q0
 have z2:=G.p1
 have z3:=G.q1
 refine ⟨?_,?_,?_,?_,?_,?_,?_,?_⟩
 ·unfold qb;lia
 ·unfold qb;lia
 ·unfold qb;lia
 ·unfold qb;lia
 ·cases b0 <;> simp [stI,stN]
 ·cases b1 <;> simp [stI,stN]
 ·cases b0 <;> simp [stN] <;> lia
 ·cases b1 <;> simp [stN] <;> lia
theorem qmh (b:Bool):0≤stI b∧stI b≤1:=by cases b <;> decide
theorem yT (b0 b1:Bool) (h0 h1:Int) (n:Nat) (ν:Nat→Nat):(qQ b0 b1 h0 h1 n ν).length=n:=by
 unfold qQ
 rw [qc9 _ _ (by rw [wC];simp [nuL]),wC]
theorem wl (a:Int) (b:Bool):(yO a (stI b)).1=(yO a (stI b)).2:=by
 unfold yO
 exact vb (by cases b <;> (rw [show M6 (Builtin.Int.intBits (stI _)) 64=true from by decide +kernel,M4]))
theorem wk (k:Nat):(qS k).1=(qS k).2:=vb (by simp)
theorem zR {x y:U2} (h:x=y):(yC x y).1=(yC x y).2:=vb (by
 subst h
 exact @decide_eq_true (x=x) (PySem.W.Fast.sDec x x) rfl)
theorem v7 (k:Nat):sB k=oS k++sT:=by
 show Str.mk ⟨F2 k 111++[47,32,120]⟩=Str.mk ((⟨F2 k 111⟩:Array Nat) ++ #[47,32,120])
 simp
theorem v6 (k:Nat):oS k=oS k++sE:=by
 show Str.mk ⟨F2 k 111⟩=Str.mk ((⟨F2 k 111⟩:Array Nat) ++ #[])
 simp
theorem q6 {a b:Int} {r:Bool} (h:(a==b)=r):(qEq a b r).1=(qEq a b r).2:=vb h
theorem jy {a b:Int} (h:¬a<b):(qLt a b false).1=(qLt a b false).2:=vb (decide_eq_false h)
theorem jz {a b:Int} (h:¬a≥b):(qGe a b false).1=(qGe a b false).2:=vb (decide_eq_false h)
theorem jC {a b:Int} (h:a=b):(a==b)=true:=by subst h;exact beq_self_eq_true a
theorem yj {a b:Int} (h:a≠b):(a==b)=false:=beq_false_of_ne h
theorem qC (ν:Nat→Nat) (j jj k:Nat):zT ((nuL ν j k).map .ref) k [keyOf (nuL ν j k) (nuI ν jj k)]:=⟨_,_,rfl,by simp [nuL],by simp [nuI], .inl rfl⟩
theorem qJ:zT [] 0 []:=⟨[],[],rfl,rfl,rfl, .inr ⟨rfl,rfl⟩⟩
theorem jA (k:Nat) (s:U2) (h:k≤15) (hs:s.length≤3):(oS k++s).length≤sizeLine:=by
 rw [qa3]
 have:(oS k).length=k:=by show (F2 k 111).length=k;simp
 unfold sizeLine
 lia
theorem qnS (b0 b1:Bool) (r0:Int) (t0':U1) (r1:Int) (t1':U1) (rv:Nat) (u0 u1:U1) (sn cd:Nat) (tb:Obj) (f:Nat→Nat) (lead:Int) (lt:U1) (n:Nat) (hS:yl w tb f) (G:jD b0 b1 r0 r1 lead n) (hn:0<n) (z0:15-(qb r0 lead)-n*stI b0=0) (z1:15-(qb r1 (-lead))-n*stI b1≠0):VC w 4 (zI b0 b1 r0 t0' r1 t1' rv u0 u1 sn cd tb (λν=>qn (f (ν 4))) lead lt n):=by
 have F:=G.f
 have E0:=F.e0
 have E1:=F.e1
 have K0:=F.k0
 have K1:=F.k1
 have P0:=F.h0
 have P1:=F.h1
 have Q0:=F.g0
 have Q1:=F.g1
 have N15:=G.n15
 have C0:=(G.c1 hn).1
 have C1:=(G.c1 hn).2.1
 refine q8 4 λads hl hok => ?_
 obtain ⟨a0,a1,a2,a3,rfl⟩:=wL hl
 have q2:a2=194:=hok _ (.head _)
 have q3:a3=201:=hok _ (.tail _ (.head _))
 subst q2 q3
 refine (qI.mk9 (qnT b0 b1 r0 t0' r1 t1' rv u0 u1 sn cd tb f lead lt n a0 a1) (qa (λ_ _=>(zj G.d0 G.d1).up.up) (qa (λ_ _=>(zj (by have:=G.d1;lia) (by have:=G.d0;lia)).up.up) (qa (λ_ _=>(yX _ _ _ _ _).up) (qa (λ_ _=>(yX _ _ _ _ _).up) (qa (λ_ _=>(jB _ _ _ _ _ _ F.h0 (by have:=F.g0;lia)).up.up) (qa (λ_ _=>(jB _ _ _ _ _ _ F.h1 (by have:=F.g1;lia)).up.up) (qa (λ_ _=>vC G.hb hn rfl rfl rfl rfl F.h0 F.h1 rfl rfl (G.c1 hn).1 (G.c1 hn).2.1 (G.c1 hn).2.2 (by have:=G.n15;lia)) (qa (λ_ _=>(zX hS F.h0).up) (qa (λ_ _=>(yn _ _ _ _ _ _ _ (by decide) (by decide)).up.up) (qa (λ_ _=>(zY _ F.k0).up) (qa (λ_ _=>j6.up) (qa (λ_ _=>zi) (qa (λ_ _=>qq (jA _ sT F.k0 (by decide))) (qa (λ_ _=>zi) (qa (λ_ _=>qq (jA _ sE F.k1 (by decide))) (B0)))))))))))))))) (λa _ _ _ p hp => ?_) (λa _ _ _ P hP => ?_))
 ·have L:=yT b0 b1 (qb r0 lead) (qb r1 (-lead)) n (a.c 8)
  simp only [qfb,L,E2,F5,or_false] at hp
  repeat' (rcases hp with rfl | hp)
  all_goals first
   | exact wk _
   | exact wl _ _
   | exact zR (v7 _)
   | exact zR (v6 _)
   | (subst hp;first | exact jy (by lia) | exact jz (by lia) | exact q6 (jC (by lia)) | exact q6 (yj (by lia)))
   | exact jy (by lia)
   | exact jz (by lia)
   | exact q6 (jC (by lia))
   | exact q6 (yj (by lia))
 ·have L:=yT b0 b1 (qb r0 lead) (qb r1 (-lead)) n (a.c 8)
  simp only [qfc,L,E2,F5,or_false] at hP
  repeat' (rcases hP with rfl | hP)
  all_goals first
   | exact ⟨by lia,by lia⟩
   | (subst hP;first | exact ⟨qC _ _ _ _,by lia⟩ | exact ⟨qJ,by lia⟩ | exact ⟨qC _ _ _ _,by lia,by lia,by lia⟩ | exact ⟨qJ,by lia,by lia,by lia⟩)
   | exact ⟨qC _ _ _ _,by lia⟩
   | exact ⟨qJ,by lia⟩
   | exact ⟨qC _ _ _ _,by lia,by lia,by lia⟩
   | exact ⟨qJ,by lia,by lia,by lia⟩
theorem qnO (b0 b1:Bool) (r0:Int) (t0':U1) (r1:Int) (t1':U1) (rv:Nat) (u0 u1:U1) (sn cd:Nat) (tb:Obj) (f:Nat→Nat) (lead:Int) (lt:U1) (n:Nat) (hS:yl w tb f) (G:jD b0 b1 r0 r1 lead n) (hn:0<n) (z0:15-(qb r0 lead)-n*stI b0≠0) (z1:15-(qb r1 (-lead))-n*stI b1=0):VC w 4 (zI b0 b1 r0 t0' r1 t1' rv u0 u1 sn cd tb (λν=>qn (f (ν 4))) lead lt n):=by
 have F:=G.f
 have E0:=F.e0
 have E1:=F.e1
 have K0:=F.k0
 have K1:=F.k1
 have P0:=F.h0
 have P1:=F.h1
 have Q0:=F.g0
 have Q1:=F.g1
 have N15:=G.n15
 have C0:=(G.c1 hn).1
 have C1:=(G.c1 hn).2.1
 refine q8 4 λads hl hok => ?_
 obtain ⟨a0,a1,a2,a3,rfl⟩:=wL hl
 have q2:a2=194:=hok _ (.head _)
 have q3:a3=201:=hok _ (.tail _ (.head _))
 subst q2 q3
 refine (qI.mk9 (qnP b0 b1 r0 t0' r1 t1' rv u0 u1 sn cd tb f lead lt n a0 a1) (qa (λ_ _=>(zj G.d0 G.d1).up.up) (qa (λ_ _=>(zj (by have:=G.d1;lia) (by have:=G.d0;lia)).up.up) (qa (λ_ _=>(yX _ _ _ _ _).up) (qa (λ_ _=>(yX _ _ _ _ _).up) (qa (λ_ _=>(jB _ _ _ _ _ _ F.h0 (by have:=F.g0;lia)).up.up) (qa (λ_ _=>(jB _ _ _ _ _ _ F.h1 (by have:=F.g1;lia)).up.up) (qa (λ_ _=>vC G.hb hn rfl rfl rfl rfl F.h0 F.h1 rfl rfl (G.c1 hn).1 (G.c1 hn).2.1 (G.c1 hn).2.2 (by have:=G.n15;lia)) (qa (λ_ _=>(zX hS F.h1).up) (qa (λ_ _=>(yn _ _ _ _ _ _ _ (by decide) (by decide)).up.up) (qa (λ_ _=>j6.up) (qa (λ_ _=>(zY _ F.k1).up) (qa (λ_ _=>zi) (qa (λ_ _=>qq (jA _ sE F.k0 (by decide))) (qa (λ_ _=>zi) (qa (λ_ _=>qq (jA _ sT F.k1 (by decide))) (B0)))))))))))))))) (λa _ _ _ p hp => ?_) (λa _ _ _ P hP => ?_))
 ·have L:=yT b0 b1 (qb r0 lead) (qb r1 (-lead)) n (a.c 8)
  simp only [qe7,L,E2,F5,or_false] at hp
  repeat' (rcases hp with rfl | hp)
  all_goals first
   | exact wk _
   | exact wl _ _
   | exact zR (v7 _)
   | exact zR (v6 _)
   | (subst hp;first | exact jy (by lia) | exact jz (by lia) | exact q6 (jC (by lia)) | exact q6 (yj (by lia)))
   | exact jy (by lia)
   | exact jz (by lia)
   | exact q6 (jC (by lia))
   | exact q6 (yj (by lia))
 ·have L:=yT b0 b1 (qb r0 lead) (qb r1 (-lead)) n (a.c 8)
  simp only [qe8,L,E2,F5,or_false] at hP
  repeat' (rcases hP with rfl | hP)
  all_goals first
   | exact ⟨by lia,by lia⟩
   | (subst hP;first | exact ⟨qC _ _ _ _,by lia⟩ | exact ⟨qJ,by lia⟩ | exact ⟨qC _ _ _ _,by lia,by lia,by lia⟩ | exact ⟨qJ,by lia,by lia,by lia⟩)
   | exact ⟨qC _ _ _ _,by lia⟩
   | exact ⟨qJ,by lia⟩
   | exact ⟨qC _ _ _ _,by lia,by lia,by lia⟩
   | exact ⟨qJ,by lia,by lia,by lia⟩
theorem qnK (b0 b1:Bool) (r0:Int) (t0':U1) (r1:Int) (t1':U1) (rv:Nat) (u0 u1:U1) (sn cd:Nat) (tb:Obj) (f:Nat→Nat) (lead:Int) (lt:U1) (n:Nat) (hS:yl w tb f) (G:jD b0 b1 r0 r1 lead n) (hn:0<n) (z0:15-(qb r0 lead)-n*stI b0=0) (z1:15-(qb r1 (-lead))-n*stI b1=0):VC w 4 (zI b0 b1 r0 t0' r1 t1' rv u0 u1 sn cd tb (λν=>qn (f (ν 4))) lead lt n):=by
 have F:=G.f
 have E0:=F.e0
 have E1:=F.e1
 have K0:=F.k0
 have K1:=F.k1
 have P0:=F.h0
 have P1:=F.h1
 have Q0:=F.g0
 have Q1:=F.g1
 have N15:=G.n15
 have C0:=(G.c1 hn).1
 have C1:=(G.c1 hn).2.1
 refine q8 4 λads hl hok => ?_
 obtain ⟨a0,a1,a2,a3,rfl⟩:=wL hl
 have q2:a2=194:=hok _ (.head _)
 have q3:a3=201:=hok _ (.tail _ (.head _))
 subst q2 q3
 refine (qI.mk9 (qnL b0 b1 r0 t0' r1 t1' rv u0 u1 sn cd tb f lead lt n a0 a1) (qa (λ_ _=>(zj G.d0 G.d1).up.up) (qa (λ_ _=>(zj (by have:=G.d1;lia) (by have:=G.d0;lia)).up.up) (qa (λ_ _=>(yX _ _ _ _ _).up) (qa (λ_ _=>(yX _ _ _ _ _).up) (qa (λ_ _=>(jB _ _ _ _ _ _ F.h0 (by have:=F.g0;lia)).up.up) (qa (λ_ _=>(jB _ _ _ _ _ _ F.h1 (by have:=F.g1;lia)).up.up) (qa (λ_ _=>vC G.hb hn rfl rfl rfl rfl F.h0 F.h1 rfl rfl (G.c1 hn).1 (G.c1 hn).2.1 (G.c1 hn).2.2 (by have:=G.n15;lia)) (qa (λ_ _=>(zX hS F.h0).up) (qa (λ_ _=>(yn _ _ _ _ _ _ _ (by decide) (by decide)).up.up) (qa (λ_ _=>(zX (jJ _) F.h1).up) (qa (λ_ _=>(yn _ _ _ _ _ _ _ (by decide) (by decide)).up.up) (qa (λ_ _=>(zY _ F.k0).up) (qa (λ_ _=>(zY _ F.k1).up) (qa (λ_ _=>zi) (qa (λ_ _=>qq (jA _ sT F.k0 (by decide))) (qa (λ_ _=>zi) (qa (λ_ _=>qq (jA _ sT F.k1 (by decide))) (B0)))))))))))))))))) (λa _ _ _ p hp => ?_) (λa _ _ _ P hP => ?_))
 ·have L:=yT b0 b1 (qb r0 lead) (qb r1 (-lead)) n (a.c 8)
  simp only [qe3,L,E2,F5,or_false] at hp
  repeat' (rcases hp with rfl | hp)
  all_goals first
   | exact wk _
   | exact wl _ _
   | exact zR (v7 _)
   | exact zR (v6 _)
   | (subst hp;first | exact jy (by lia) | exact jz (by lia) | exact q6 (jC (by lia)) | exact q6 (yj (by lia)))
   | exact jy (by lia)
   | exact jz (by lia)
   | exact q6 (jC (by lia))
   | exact q6 (yj (by lia))
 ·have L:=yT b0 b1 (qb r0 lead) (qb r1 (-lead)) n (a.c 8)
  simp only [qe4,L,E2,F5,or_false] at hP
  repeat' (rcases hP with rfl | hP)
  all_goals first
   | exact ⟨by lia,by lia⟩
   | (subst hP;first | exact ⟨qC _ _ _ _,by lia⟩ | exact ⟨qJ,by lia⟩ | exact ⟨qC _ _ _ _,by lia,by lia,by lia⟩ | exact ⟨qJ,by lia,by lia,by lia⟩)
   | exact ⟨qC _ _ _ _,by lia⟩
   | exact ⟨qJ,by lia⟩
   | exact ⟨qC _ _ _ _,by lia,by lia,by lia⟩
   | exact ⟨qJ,by lia,by lia,by lia⟩
theorem qnU (b0 b1:Bool) (r0:Int) (t0':U1) (r1:Int) (t1':U1) (rv:Nat) (u0 u1:U1) (sn cd:Nat) (tb:Obj) (f:Nat→Nat) (lead:Int) (lt:U1) (hS:yl w tb f) (G:jD b0 b1 r0 r1 lead 0) (z0:15-(qb r0 lead)=0) (z1:15-(qb r1 (-lead))≠0):VC w 4 (zI b0 b1 r0 t0' r1 t1' rv u0 u1 sn cd tb (λν=>qn (f (ν 4))) lead lt 0):=by
 have F:=G.f
 have E0:=F.e0
 have E1:=F.e1
 have K0:=F.k0
 have K1:=F.k1
 have P0:=F.h0
 have P1:=F.h1
 have Q0:=F.g0
 have Q1:=F.g1
 have N15:=G.n15
 skip
 skip
 refine q8 4 λads hl hok => ?_
 obtain ⟨a0,a1,a2,a3,rfl⟩:=wL hl
 have q2:a2=194:=hok _ (.head _)
 have q3:a3=201:=hok _ (.tail _ (.head _))
 subst q2 q3
 refine (qI.mk9 (qnV b0 b1 r0 t0' r1 t1' rv u0 u1 sn cd tb f lead lt 0 a0 a1) (qa (λ_ _=>(zj G.d0 G.d1).up.up) (qa (λ_ _=>(zj (by have:=G.d1;lia) (by have:=G.d0;lia)).up.up) (qa (λ_ _=>(yX _ _ _ _ _).up) (qa (λ_ _=>(yX _ _ _ _ _).up) (qa (λ_ _=>(jB _ _ _ _ _ _ F.h0 (by have:=F.g0;lia)).up.up) (qa (λ_ _=>(jB _ _ _ _ _ _ F.h1 (by have:=F.g1;lia)).up.up) (qa (λ_ _=>qcf _ _ _ _ _ _ _ _ _ _ (G.c0 rfl)) (qa (λ_ _=>(zX hS F.h0).up) (qa (λ_ _=>(yn _ _ _ _ _ _ _ (by decide) (by decide)).up.up) (qa (λ_ _=>(zY _ (I7 _)).up) (qa (λ_ _=>j6.up) (qa (λ_ _=>zi) (qa (λ_ _=>qq (jA _ sT (I7 _) (by decide))) (qa (λ_ _=>zi) (qa (λ_ _=>qq (jA _ sE (I7 _) (by decide))) (B0)))))))))))))))) (λa _ _ _ p hp => ?_) (λa _ _ _ P hP => ?_))
 ·skip
  simp only [qfd,E2,F5,or_false] at hp
  repeat' (rcases hp with rfl | hp)
  all_goals first
   | exact wk _
   | exact wl _ _
   | exact zR (v7 _)
   | exact zR (v6 _)
   | (subst hp;first | exact jy (by lia) | exact jz (by lia) | exact q6 (jC (by lia)) | exact q6 (yj (by lia)))
   | exact jy (by lia)
   | exact jz (by lia)
   | exact q6 (jC (by lia))
   | exact q6 (yj (by lia))
 ·skip
  simp only [qfe,E2,F5,or_false] at hP
  repeat' (rcases hP with rfl | hP)
  all_goals first
   | exact ⟨by lia,by lia⟩
   | (subst hP;first | exact ⟨qC _ _ _ _,by lia⟩ | exact ⟨qJ,by lia⟩ | exact ⟨qC _ _ _ _,by lia,by lia,by lia⟩ | exact ⟨qJ,by lia,by lia,by lia⟩)
   | exact ⟨qC _ _ _ _,by lia⟩
   | exact ⟨qJ,by lia⟩
   | exact ⟨qC _ _ _ _,by lia,by lia,by lia⟩
   | exact ⟨qJ,by lia,by lia,by lia⟩
theorem qnQ (b0 b1:Bool) (r0:Int) (t0':U1) (r1:Int) (t1':U1) (rv:Nat) (u0 u1:U1) (sn cd:Nat) (tb:Obj) (f:Nat→Nat) (lead:Int) (lt:U1) (hS:yl w tb f) (G:jD b0 b1 r0 r1 lead 0) (z0:15-(qb r0 lead)≠0) (z1:15-(qb r1 (-lead))=0):VC w 4 (zI b0 b1 r0 t0' r1 t1' rv u0 u1 sn cd tb (λν=>qn (f (ν 4))) lead lt 0):=by
 have F:=G.f
 have E0:=F.e0
 have E1:=F.e1
 have K0:=F.k0
 have K1:=F.k1
 have P0:=F.h0
 have P1:=F.h1
 have Q0:=F.g0
 have Q1:=F.g1
 have N15:=G.n15
 skip
 skip
 refine q8 4 λads hl hok => ?_
 obtain ⟨a0,a1,a2,a3,rfl⟩:=wL hl
 have q2:a2=194:=hok _ (.head _)
 have q3:a3=201:=hok _ (.tail _ (.head _))
 subst q2 q3
 refine (qI.mk9 (qnR b0 b1 r0 t0' r1 t1' rv u0 u1 sn cd tb f lead lt 0 a0 a1) (qa (λ_ _=>(zj G.d0 G.d1).up.up) (qa (λ_ _=>(zj (by have:=G.d1;lia) (by have:=G.d0;lia)).up.up) (qa (λ_ _=>(yX _ _ _ _ _).up) (qa (λ_ _=>(yX _ _ _ _ _).up) (qa (λ_ _=>(jB _ _ _ _ _ _ F.h0 (by have:=F.g0;lia)).up.up) (qa (λ_ _=>(jB _ _ _ _ _ _ F.h1 (by have:=F.g1;lia)).up.up) (qa (λ_ _=>qcf _ _ _ _ _ _ _ _ _ _ (G.c0 rfl)) (qa (λ_ _=>(zX hS F.h1).up) (qa (λ_ _=>(yn _ _ _ _ _ _ _ (by decide) (by decide)).up.up) (qa (λ_ _=>j6.up) (qa (λ_ _=>(zY _ (I7 _)).up) (qa (λ_ _=>zi) (qa (λ_ _=>qq (jA _ sE (I7 _) (by decide))) (qa (λ_ _=>zi) (qa (λ_ _=>qq (jA _ sT (I7 _) (by decide))) (B0)))))))))))))))) (λa _ _ _ p hp => ?_) (λa _ _ _ P hP => ?_))
 ·skip
  simp only [qe9,E2,F5,or_false] at hp
  repeat' (rcases hp with rfl | hp)
  all_goals first
   | exact wk _
   | exact wl _ _
   | exact zR (v7 _)
   | exact zR (v6 _)
   | (subst hp;first | exact jy (by lia) | exact jz (by lia) | exact q6 (jC (by lia)) | exact q6 (yj (by lia)))
   | exact jy (by lia)
   | exact jz (by lia)
   | exact q6 (jC (by lia))
   | exact q6 (yj (by lia))
 ·skip
  simp only [qfa,E2,F5,or_false] at hP
  repeat' (rcases hP with rfl | hP)
  all_goals first
   | exact ⟨by lia,by lia⟩
   | (subst hP;first | exact ⟨qC _ _ _ _,by lia⟩ | exact ⟨qJ,by lia⟩ | exact ⟨qC _ _ _ _,by lia,by lia,by lia⟩ | exact ⟨qJ,by lia,by lia,by lia⟩)
   | exact ⟨qC _ _ _ _,by lia⟩
   | exact ⟨qJ,by lia⟩
   | exact ⟨qC _ _ _ _,by lia,by lia,by lia⟩
   | exact ⟨qJ,by lia,by lia,by lia⟩
theorem qnM (b0 b1:Bool) (r0:Int) (t0':U1) (r1:Int) (t1':U1) (rv:Nat) (u0 u1:U1) (sn cd:Nat) (tb:Obj) (f:Nat→Nat) (lead:Int) (lt:U1) (hS:yl w tb f) (G:jD b0 b1 r0 r1 lead 0) (z0:15-(qb r0 lead)=0) (z1:15-(qb r1 (-lead))=0):VC w 4 (zI b0 b1 r0 t0' r1 t1' rv u0 u1 sn cd tb (λν=>qn (f (ν 4))) lead lt 0):=by
 have F:=G.f
 have E0:=F.e0
 have E1:=F.e1
 have K0:=F.k0
 have K1:=F.k1
 have P0:=F.h0
 have P1:=F.h1
 have Q0:=F.g0
 have Q1:=F.g1
 have N15:=G.n15
 skip
 skip
 refine q8 4 λads hl hok => ?_
 obtain ⟨a0,a1,a2,a3,rfl⟩:=wL hl
 have q2:a2=194:=hok _ (.head _)
 have q3:a3=201:=hok _ (.tail _ (.head _))
 subst q2 q3
 refine (qI.mk9 (qnN b0 b1 r0 t0' r1 t1' rv u0 u1 sn cd tb f lead lt 0 a0 a1) (qa (λ_ _=>(zj G.d0 G.d1).up.up) (qa (λ_ _=>(zj (by have:=G.d1;lia) (by have:=G.d0;lia)).up.up) (qa (λ_ _=>(yX _ _ _ _ _).up) (qa (λ_ _=>(yX _ _ _ _ _).up) (qa (λ_ _=>(jB _ _ _ _ _ _ F.h0 (by have:=F.g0;lia)).up.up) (qa (λ_ _=>(jB _ _ _ _ _ _ F.h1 (by have:=F.g1;lia)).up.up) (qa (λ_ _=>qcf _ _ _ _ _ _ _ _ _ _ (G.c0 rfl)) (qa (λ_ _=>(zX hS F.h0).up) (qa (λ_ _=>(yn _ _ _ _ _ _ _ (by decide) (by decide)).up.up) (qa (λ_ _=>(zX (jJ _) F.h1).up) (qa (λ_ _=>(yn _ _ _ _ _ _ _ (by decide) (by decide)).up.up) (qa (λ_ _=>(zY _ (I7 _)).up) (qa (λ_ _=>(zY _ (I7 _)).up) (qa (λ_ _=>zi) (qa (λ_ _=>qq (jA _ sT (I7 _) (by decide))) (qa (λ_ _=>zi) (qa (λ_ _=>qq (jA _ sT (I7 _) (by decide))) (B0)))))))))))))))))) (λa _ _ _ p hp => ?_) (λa _ _ _ P hP => ?_))
 ·skip
  simp only [qe5,E2,F5,or_false] at hp
  repeat' (rcases hp with rfl | hp)
  all_goals first
   | exact wk _
   | exact wl _ _
   | exact zR (v7 _)
   | exact zR (v6 _)
   | (subst hp;first | exact jy (by lia) | exact jz (by lia) | exact q6 (jC (by lia)) | exact q6 (yj (by lia)))
   | exact jy (by lia)
   | exact jz (by lia)
   | exact q6 (jC (by lia))
   | exact q6 (yj (by lia))
 ·skip
  simp only [qe6,E2,F5,or_false] at hP
  repeat' (rcases hP with rfl | hP)
  all_goals first
   | exact ⟨by lia,by lia⟩
   | (subst hP;first | exact ⟨qC _ _ _ _,by lia⟩ | exact ⟨qJ,by lia⟩ | exact ⟨qC _ _ _ _,by lia,by lia,by lia⟩ | exact ⟨qJ,by lia,by lia,by lia⟩)
   | exact ⟨qC _ _ _ _,by lia⟩
   | exact ⟨qJ,by lia⟩
   | exact ⟨qC _ _ _ _,by lia,by lia,by lia⟩
   | exact ⟨qJ,by lia,by lia,by lia⟩
theorem qnI (b0 b1:Bool) (r0:Int) (t0':U1) (r1:Int) (t1':U1) (rv:Nat) (u0 u1:U1) (sn cd:Nat) (c:Nat) (lead:Int) (lt:U1) (G:jD b0 b1 r0 r1 lead 0) (z0:15-(qb r0 lead)≠0) (z1:15-(qb r1 (-lead))≠0):VC w 4 (zI b0 b1 r0 t0' r1 t1' rv u0 u1 sn cd (qn c) (λν=>qn ((λ_=>c) (ν 4))) lead lt 0):=by
 have F:=G.f
 have E0:=F.e0
 have E1:=F.e1
 have K0:=F.k0
 have K1:=F.k1
 have P0:=F.h0
 have P1:=F.h1
 have Q0:=F.g0
 have Q1:=F.g1
 have N15:=G.n15
 skip
 skip
 refine q8 4 λads hl hok => ?_
 obtain ⟨a0,a1,a2,a3,rfl⟩:=wL hl
 have q2:a2=194:=hok _ (.head _)
 have q3:a3=201:=hok _ (.tail _ (.head _))
 subst q2 q3
 refine (qI.mk9 (qnJ b0 b1 r0 t0' r1 t1' rv u0 u1 sn cd c lead lt 0 a0 a1) (qa (λ_ _=>(zj G.d0 G.d1).up.up) (qa (λ_ _=>(zj (by have:=G.d1;lia) (by have:=G.d0;lia)).up.up) (qa (λ_ _=>(yX _ _ _ _ _).up) (qa (λ_ _=>(yX _ _ _ _ _).up) (qa (λ_ _=>(jB _ _ _ _ _ _ F.h0 (by have:=F.g0;lia)).up.up) (qa (λ_ _=>(jB _ _ _ _ _ _ F.h1 (by have:=F.g1;lia)).up.up) (qa (λ_ _=>qcf _ _ _ _ _ _ _ _ _ _ (G.c0 rfl)) (qa (λ_ _=>j6.up) (qa (λ_ _=>j6.up) (qa (λ_ _=>zi) (qa (λ_ _=>qq (jA _ sE (I7 _) (by decide))) (qa (λ_ _=>zi) (qa (λ_ _=>qq (jA _ sE (I7 _) (by decide))) (B0)))))))))))))) (λa _ _ _ p hp => ?_) (λa _ _ _ P hP => ?_))
 ·skip
  simp only [qe1,E2,F5,or_false] at hp
  repeat' (rcases hp with rfl | hp)
  all_goals first
   | exact wk _
   | exact wl _ _
   | exact zR (v7 _)
   | exact zR (v6 _)
   | (subst hp;first | exact jy (by lia) | exact jz (by lia) | exact q6 (jC (by lia)) | exact q6 (yj (by lia)))
   | exact jy (by lia)
   | exact jz (by lia)
   | exact q6 (jC (by lia))
   | exact q6 (yj (by lia))
 ·skip
  simp only [qe2,E2,F5,or_false] at hP
  repeat' (rcases hP with rfl | hP)
  all_goals first
   | exact ⟨by lia,by lia⟩
   | (subst hP;first | exact ⟨qC _ _ _ _,by lia⟩ | exact ⟨qJ,by lia⟩ | exact ⟨qC _ _ _ _,by lia,by lia,by lia⟩ | exact ⟨qJ,by lia,by lia,by lia⟩)
   | exact ⟨qC _ _ _ _,by lia⟩
   | exact ⟨qJ,by lia⟩
   | exact ⟨qC _ _ _ _,by lia,by lia,by lia⟩
   | exact ⟨qJ,by lia,by lia,by lia⟩
theorem zw {b0 b1:Bool} {r0:Int} {t0':U1} {r1:Int} {t1':U1} {rv:Nat} {u0 u1:U1} {sn cd:Nat} {tb:Obj} {f:Nat→Nat} {lead:Int} {lt:U1} {n:Nat} (hS:yl w tb f) (G:jD b0 b1 r0 r1 lead n) (hz:15-qb r0 lead-n*stI b0=0∨15-qb r1 (-lead)-n*stI b1=0):VC w 4 (zI b0 b1 r0 t0' r1 t1' rv u0 u1 sn cd tb (λν=>qn (f (ν 4))) lead lt n):=by
 cases n with
 | zero =>
  have e0:(15-qb r0 lead-((0:Nat):Int)*stI b0)=15-qb r0 lead:=by simp
  have e1:(15-qb r1 (-lead)-((0:Nat):Int)*stI b1)=15-qb r1 (-lead):=by simp
  rw [e0,e1] at hz
  by_cases h0:15-qb r0 lead=0
  ·by_cases h1:15-qb r1 (-lead)=0
   ·exact qnM _ _ _ _ _ _ _ _ _ _ _ _ _ _ _ hS G h0 h1
   ·exact qnU _ _ _ _ _ _ _ _ _ _ _ _ _ _ _ hS G h0 h1
  ·exact qnQ _ _ _ _ _ _ _ _ _ _ _ _ _ _ _ hS G h0 (hz.resolve_left h0)
 | succ n =>
  by_cases h0:15-qb r0 lead-((n+1:Nat):Int)*stI b0=0
  ·by_cases h1:15-qb r1 (-lead)-((n+1:Nat):Int)*stI b1=0
   ·exact qnK _ _ _ _ _ _ _ _ _ _ _ _ _ _ _ _ hS G (M3 n) h0 h1
   ·exact qnS _ _ _ _ _ _ _ _ _ _ _ _ _ _ _ _ hS G (M3 n) h0 h1
  ·exact qnO _ _ _ _ _ _ _ _ _ _ _ _ _ _ _ _ hS G (M3 n) h0 (hz.resolve_left h0)
theorem ql {b0 b1:Bool} {r0:Int} {t0':U1} {r1:Int} {t1':U1} {rv:Nat} {u0 u1:U1} {sn cd c:Nat} {lead:Int} {lt:U1} {n:Nat} (G:jD b0 b1 r0 r1 lead n):VC w 4 (zI b0 b1 r0 t0' r1 t1' rv u0 u1 sn cd (qn c) (λ_=>qn c) lead lt n):=by
 by_cases hz:15-qb r0 lead-n*stI b0=0∨15-qb r1 (-lead)-n*stI b1=0
 ·exact zw (f:=λ_=>c) (jJ c) G hz
 ·have s0:=qmh b0
  have s1:=qmh b1
  have n0:n=0:=by
   cases n with
   | zero=>rfl
   | succ n =>
    obtain ⟨h1,h2,h3⟩:=G.c1 (M3 n)
    exact absurd (h3.elim (λh => .inl (by lia)) (λh => .inr (by lia))) hz
  subst n0
  have e0:(15-qb r0 lead-((0:Nat):Int)*stI b0)=15-qb r0 lead:=by simp
  have e1:(15-qb r1 (-lead)-((0:Nat):Int)*stI b1)=15-qb r1 (-lead):=by simp
  rw [e0,e1] at hz
  exact qnI _ _ _ _ _ _ _ _ _ _ _ _ _ _ G (λh=>hz (.inl h)) (λh=>hz (.inr h))
end
noncomputable def wy (hosts:List U2) (ts:List U1) (lv:Nat) (L:List Int):Ctr where
 code ads := .call (.ref 267) ⟨[.ref (adF ads 0 0)],[]⟩
 ok _:=[]
 pre _:=[qd (strsT hosts ts) lv]
 res _ ν := .done (.ok (.ret (.ref (ν 3))))
 post _ _:=[qd (strsT hosts ts) lv]
 news _ ν:=[qd (ladT L (nuT ν L.length)) 0]
 frz:=[]
section
variable {w:T3}
theorem qkR {h r:U2} {t:U1} (e:(wj h&&(reachF h==r))=true):VC w 1 (zH h r t):=by
 rw [J8] at e
 have z:=qv (w:=w) (t:=t) e.1
 rw [eq_of_beq e.2] at z
 exact z
theorem rV {n:Nat} {a b:U2} {cs:List CH} (h:AllValid prog w (ktOf w.params) 1 cs) (e:(wj a&&(reachF a==b))=true:=by decide +kernel):AllValid prog w (ktOf w.params) 1 (rC n a b::cs):=qa (λ_ _=>qkR e) h
noncomputable def ji:U2:=⟨#[108,111,99,97,108]⟩
noncomputable def s10_1:U2:=⟨#[105,46,108,111,99,97,108]⟩
noncomputable def s10_2:U2:=⟨#[110,46,105,46,108,111,99,97,108]⟩
noncomputable def s10_3:U2:=⟨#[110,46,110,46,105,46,108,111,99,97,108]⟩
noncomputable def qaO:U2:=⟨#[105,46,110,46,105,46,108,111,99,97,108]⟩
noncomputable def s10_5:U2:=⟨#[110,46,110,46,110,46,105,46,108,111,99,97,108]⟩
noncomputable def qdC:U2:=⟨#[105,46,110,46,110,46,105,46,108,111,99,97,108]⟩
noncomputable def vo:U2:=⟨#[110,46,105,46,110,46,105,46,108,111,99,97,108]⟩
noncomputable def ud:U2:=⟨#[110,46,110,46,110,46,110,46,105,46,108,111,99,97,108]⟩
noncomputable def qdB:U2:=⟨#[105,46,110,46,110,46,110,46,105,46,108,111,99,97,108]⟩
noncomputable def qac:U2:=⟨#[110,46,105,46,110,46,110,46,105,46,108,111,99,97,108]⟩
noncomputable def qbS:U2:=⟨#[110,46,110,46,105,46,110,46,105,46,108,111,99,97,108]⟩
noncomputable def qeu:U2:=⟨#[105,46,110,46,105,46,110,46,105,46,108,111,99,97,108]⟩
noncomputable def qab:U2:=⟨#[110,46,110,46,110,46,110,46,110,46,105,46,108,111,99,97,108]⟩
noncomputable def qet:U2:=⟨#[105,46,110,46,110,46,110,46,110,46,105,46,108,111,99,97,108]⟩
noncomputable def w6:U2:=⟨#[110,46,105,46,110,46,110,46,110,46,105,46,108,111,99,97,108]⟩
noncomputable def s10_16:U2:=⟨#[46,105,46,108,111,99,97,108]⟩
noncomputable def s10_17:U2:=⟨#[46,110,46,105,46,108,111,99,97,108]⟩
noncomputable def qbR:U2:=⟨#[46,110,46,110,46,105,46,108,111,99,97,108]⟩
noncomputable def qes:U2:=⟨#[46,105,46,110,46,105,46,108,111,99,97,108]⟩
noncomputable def qi3:U2:=⟨#[46,110,46,110,46,110,46,105,46,108,111,99,97,108]⟩
noncomputable def qi2:U2:=⟨#[46,105,46,110,46,110,46,105,46,108,111,99,97,108]⟩
noncomputable def qpV:U2:=⟨#[46,110,46,105,46,110,46,105,46,108,111,99,97,108]⟩
noncomputable def qi1:U2:=⟨#[46,110,46,110,46,110,46,110,46,105,46,108,111,99,97,108]⟩
noncomputable def qi0:U2:=⟨#[46,105,46,110,46,110,46,110,46,105,46,108,111,99,97,108]⟩
noncomputable def qnH:List U2:=[ji,s10_1,s10_2,s10_3,qaO,s10_5,qdC,vo,ud,qdB,qac,qbS,qeu,qab,qet,w6]
noncomputable def jh:U2:=⟨#[120,46,110,101,116]⟩
noncomputable def s11_1:U2:=⟨#[105,46,120,46,110,101,116]⟩
noncomputable def s11_2:U2:=⟨#[110,46,105,46,120,46,110,101,116]⟩
noncomputable def s11_3:U2:=⟨#[110,46,110,46,105,46,120,46,110,101,116]⟩
noncomputable def qaN:U2:=⟨#[105,46,110,46,105,46,120,46,110,101,116]⟩
noncomputable def s11_5:U2:=⟨#[110,46,110,46,110,46,105,46,120,46,110,101,116]⟩
noncomputable def qdA:U2:=⟨#[105,46,110,46,110,46,105,46,120,46,110,101,116]⟩
noncomputable def vn:U2:=⟨#[110,46,105,46,110,46,105,46,120,46,110,101,116]⟩
noncomputable def uc:U2:=⟨#[110,46,110,46,110,46,110,46,105,46,120,46,110,101,116]⟩
noncomputable def qdz:U2:=⟨#[105,46,110,46,110,46,110,46,105,46,120,46,110,101,116]⟩
noncomputable def qaa:U2:=⟨#[110,46,105,46,110,46,110,46,105,46,120,46,110,101,116]⟩
noncomputable def qbQ:U2:=⟨#[110,46,110,46,105,46,110,46,105,46,120,46,110,101,116]⟩
noncomputable def qer:U2:=⟨#[105,46,110,46,105,46,110,46,105,46,120,46,110,101,116]⟩
noncomputable def u9:U2:=⟨#[110,46,110,46,110,46,110,46,110,46,105,46,120,46,110,101,116]⟩
noncomputable def qeq:U2:=⟨#[105,46,110,46,110,46,110,46,110,46,105,46,120,46,110,101,116]⟩
noncomputable def w5:U2:=⟨#[110,46,105,46,110,46,110,46,110,46,105,46,120,46,110,101,116]⟩
noncomputable def s11_16:U2:=⟨#[46,105,46,120,46,110,101,116]⟩
noncomputable def s11_17:U2:=⟨#[46,110,46,105,46,120,46,110,101,116]⟩
noncomputable def qbP:U2:=⟨#[46,110,46,110,46,105,46,120,46,110,101,116]⟩
noncomputable def qep:U2:=⟨#[46,105,46,110,46,105,46,120,46,110,101,116]⟩
noncomputable def qiZ:U2:=⟨#[46,110,46,110,46,110,46,105,46,120,46,110,101,116]⟩
noncomputable def qiY:U2:=⟨#[46,105,46,110,46,110,46,105,46,120,46,110,101,116]⟩
noncomputable def qpU:U2:=⟨#[46,110,46,105,46,110,46,105,46,120,46,110,101,116]⟩
noncomputable def qiX:U2:=⟨#[46,110,46,110,46,110,46,110,46,105,46,120,46,110,101,116]⟩
noncomputable def qiW:U2:=⟨#[46,105,46,110,46,110,46,110,46,105,46,120,46,110,101,116]⟩
noncomputable def qnG:List U2:=[jh,s11_1,s11_2,s11_3,qaN,s11_5,qdA,vn,uc,qdz,qaa,qbQ,qer,u9,qeq,w5]
noncomputable def jg:U2:=⟨#[121,46,120,108,111,99,97,108]⟩
noncomputable def s12_1:U2:=⟨#[105,46,121,46,120,108,111,99,97,108]⟩
noncomputable def s12_2:U2:=⟨#[110,46,105,46,121,46,120,108,111,99,97,108]⟩
noncomputable def s12_3:U2:=⟨#[110,46,110,46,105,46,121,46,120,108,111,99,97,108]⟩
noncomputable def qaM:U2:=⟨#[105,46,110,46,105,46,121,46,120,108,111,99,97,108]⟩
noncomputable def s12_5:U2:=⟨#[110,46,110,46,110,46,105,46,121,46,120,108,111,99,97,108]⟩
noncomputable def qdy:U2:=⟨#[105,46,110,46,110,46,105,46,121,46,120,108,111,99,97,108]⟩
noncomputable def vm:U2:=⟨#[110,46,105,46,110,46,105,46,121,46,120,108,111,99,97,108]⟩
noncomputable def ub:U2:=⟨#[110,46,110,46,110,46,110,46,105,46,121,46,120,108,111,99,97,108]⟩
noncomputable def qdx:U2:=⟨#[105,46,110,46,110,46,110,46,105,46,121,46,120,108,111,99,97,108]⟩
noncomputable def u8:U2:=⟨#[110,46,105,46,110,46,110,46,105,46,121,46,120,108,111,99,97,108]⟩
noncomputable def qbO:U2:=⟨#[110,46,110,46,105,46,110,46,105,46,121,46,120,108,111,99,97,108]⟩
noncomputable def qeo:U2:=⟨#[105,46,110,46,105,46,110,46,105,46,121,46,120,108,111,99,97,108]⟩
noncomputable def u7:U2:=⟨#[110,46,110,46,110,46,110,46,110,46,105,46,121,46,120,108,111,99,97,108]⟩
noncomputable def qen:U2:=⟨#[105,46,110,46,110,46,110,46,110,46,105,46,121,46,120,108,111,99,97,108]⟩
noncomputable def w4:U2:=⟨#[110,46,105,46,110,46,110,46,110,46,105,46,121,46,120,108,111,99,97,108]⟩
noncomputable def s12_16:U2:=⟨#[46,105,46,121,46,120,108,111,99,97,108]⟩
noncomputable def s12_17:U2:=⟨#[46,110,46,105,46,121,46,120,108,111,99,97,108]⟩
noncomputable def qbN:U2:=⟨#[46,110,46,110,46,105,46,121,46,120,108,111,99,97,108]⟩
noncomputable def qem:U2:=⟨#[46,105,46,110,46,105,46,121,46,120,108,111,99,97,108]⟩
noncomputable def qiV:U2:=⟨#[46,110,46,110,46,110,46,105,46,121,46,120,108,111,99,97,108]⟩
noncomputable def qiU:U2:=⟨#[46,105,46,110,46,110,46,105,46,121,46,120,108,111,99,97,108]⟩
noncomputable def qpT:U2:=⟨#[46,110,46,105,46,110,46,105,46,121,46,120,108,111,99,97,108]⟩
noncomputable def qiT:U2:=⟨#[46,110,46,110,46,110,46,110,46,105,46,121,46,120,108,111,99,97,108]⟩
noncomputable def qiS:U2:=⟨#[46,105,46,110,46,110,46,110,46,105,46,121,46,120,108,111,99,97,108]⟩
noncomputable def qnF:List U2:=[jg,s12_1,s12_2,s12_3,qaM,s12_5,qdy,vm,ub,qdx,u8,qbO,qeo,u7,qen,w4]
noncomputable def hintsTwice6:List Nat:=hx 0x1250d1f90777e4dd47d0877e0e76e4cd0c76e5010f4bd0959e4ad1280f49d1bbae48d16f8e05d07f8e46d33d09f8e0cf6e45d0cf6e01d010f44d0911e43d1230f42d0911e41d1230f40d0911e3fd1230f3ed0911e3dd1230f3cd0949e3bd1270f3ad1bb2e39d093ee80c3ee810f38d0911e37d1230f36d093be35d1270f34d1ed4e32d23d09d4e0ad2e31d12d2e30d0949e2fd1270f2ed1bd2e2dd0960ec0c60ec10f2cd0911e2bd1230f2ad0911e29d1230f28d0911e27d1230f26d0939e25d1270f24d1672e90772e22d1cd0872e091de21d0c71e5010f20d0954e1fd1280f1ed1b93e1dd16d1e05d07d1e1bd0cd0767e091de1ad0ccfe9010f19d0911e18d1230f17d0911e16d1230f15d0949e14d1270f13d1bade12d093ee80c3ee810f11d0911e10d1230f0fd0953e0ed1270f0dd0953e40c53e902111010bd03d0743e071de0ad20613e240f5010f09d2f20f08d1260f07d061ce0720e15f310f06d1f11f01d0f36f05d6f04d01011002d000d
theorem qbu:(∀{k0 k1 k2 k3 k4 k5 k6 k7 k8 k9 k10 k11 k12 k13 k14 k15:U1} {lv:Nat},VC w 2 (wy qnH [k0,k1,k2,k3,k4,k5,k6,k7,k8,k9,k10,k11,k12,k13,k14,k15] lv [0,18,33,53,83,71,116,106,166,141,216,159,249]))∧(∀{k0 k1 k2 k3 k4 k5 k6 k7 k8 k9 k10 k11 k12 k13 k14 k15:U1} {lv:Nat},VC w 2 (wy qnG [k0,k1,k2,k3,k4,k5,k6,k7,k8,k9,k10,k11,k12,k13,k14,k15] lv [0,18,33,53,83,71,116,106,166,141,216,159,249]))∧(∀{k0 k1 k2 k3 k4 k5 k6 k7 k8 k9 k10 k11 k12 k13 k14 k15:U1} {lv:Nat},VC w 2 (wy qnF [k0,k1,k2,k3,k4,k5,k6,k7,k8,k9,k10,k11,k12,k13,k14,k15] lv [0,18,33,53,83,71,116,106,166,141,216,159,249])):=by
 refine ⟨?_,?_,?_⟩
 ·intro k0 k1 k2 k3 k4 k5 k6 k7 k8 k9 k10 k11 k12 k13 k14 k15 lv;exact vcr 1 3387 [77] hintsTwice6 [] [(rC 25 s10_2 s10_16),(rC 7 s10_2 s10_16),(rC 16 s10_3 s10_17),(rC 5 s10_2 s10_16),(rC 21 s10_5 qbR),(rC 5 s10_3 s10_17),(rC 5 s10_2 s10_16),(rC 7 s10_5 qbR),(rC 26 vo qes),(rC 7 vo qes),(rC 19 ud qi3),(rC 5 s10_5 qbR),(rC 5 s10_3 s10_17),(rC 5 s10_2 s10_16),(rC 21 qac qi2),(rC 7 qac qi2),(rC 21 qbS qpV),(rC 5 vo qes),(rC 21 qab qi1),(rC 5 ud qi3),(rC 5 s10_5 qbR),(rC 5 s10_3 s10_17),(rC 5 s10_2 s10_16),(rC 7 qab qi1),(rC 31 w6 qi0),(rC 7 w6 qi0)] (λ_ _ _ _=>[]) (λa N t0 gN=>[a.c 25 0+2,0,0,0,0,0,0,0,0,0,0,0,0,0,0,0,0,t0+1,a.c 1 1+6,a.c 1 1+9,a.c 7 1+6,a.c 7 1+9,a.c 9 1+6,a.c 9 1+9,a.c 15 1+6,a.c 15 1+9,a.c 23 1+6,a.c 23 1+9,a.c 25 1+6,a.c 25 1+9]) (rV (rV (rV (rV (rV (rV (rV (rV (rV (rV (rV (rV (rV (rV (rV (rV (rV (rV (rV (rV (rV (rV (rV (rV (rV (rV (B0))))))))))))))))))))))))))) (λ_ _ _ _ _ h=>nomatch h)
 ·intro k0 k1 k2 k3 k4 k5 k6 k7 k8 k9 k10 k11 k12 k13 k14 k15 lv;exact vcr 1 3387 [77] hintsTwice6 [] [(rC 25 s11_2 s11_16),(rC 7 s11_2 s11_16),(rC 16 s11_3 s11_17),(rC 5 s11_2 s11_16),(rC 21 s11_5 qbP),(rC 5 s11_3 s11_17),(rC 5 s11_2 s11_16),(rC 7 s11_5 qbP),(rC 26 vn qep),(rC 7 vn qep),(rC 19 uc qiZ),(rC 5 s11_5 qbP),(rC 5 s11_3 s11_17),(rC 5 s11_2 s11_16),(rC 21 qaa qiY),(rC 7 qaa qiY),(rC 21 qbQ qpU),(rC 5 vn qep),(rC 21 u9 qiX),(rC 5 uc qiZ),(rC 5 s11_5 qbP),(rC 5 s11_3 s11_17),(rC 5 s11_2 s11_16),(rC 7 u9 qiX),(rC 31 w5 qiW),(rC 7 w5 qiW)] (λ_ _ _ _=>[]) (λa N t0 gN=>[a.c 25 0+2,0,0,0,0,0,0,0,0,0,0,0,0,0,0,0,0,t0+1,a.c 1 1+6,a.c 1 1+9,a.c 7 1+6,a.c 7 1+9,a.c 9 1+6,a.c 9 1+9,a.c 15 1+6,a.c 15 1+9,a.c 23 1+6,a.c 23 1+9,a.c 25 1+6,a.c 25 1+9]) (rV (rV (rV (rV (rV (rV (rV (rV (rV (rV (rV (rV (rV (rV (rV (rV (rV (rV (rV (rV (rV (rV (rV (rV (rV (rV (B0))))))))))))))))))))))))))) (λ_ _ _ _ _ h=>nomatch h)
 ·intro k0 k1 k2 k3 k4 k5 k6 k7 k8 k9 k10 k11 k12 k13 k14 k15 lv;exact vcr 1 3387 [77] hintsTwice6 [] [(rC 25 s12_2 s12_16),(rC 7 s12_2 s12_16),(rC 16 s12_3 s12_17),(rC 5 s12_2 s12_16),(rC 21 s12_5 qbN),(rC 5 s12_3 s12_17),(rC 5 s12_2 s12_16),(rC 7 s12_5 qbN),(rC 26 vm qem),(rC 7 vm qem),(rC 19 ub qiV),(rC 5 s12_5 qbN),(rC 5 s12_3 s12_17),(rC 5 s12_2 s12_16),(rC 21 u8 qiU),(rC 7 u8 qiU),(rC 21 qbO qpT),(rC 5 vm qem),(rC 21 u7 qiT),(rC 5 ub qiV),(rC 5 s12_5 qbN),(rC 5 s12_3 s12_17),(rC 5 s12_2 s12_16),(rC 7 u7 qiT),(rC 31 w4 qiS),(rC 7 w4 qiS)] (λ_ _ _ _=>[]) (λa N t0 gN=>[a.c 25 0+2,0,0,0,0,0,0,0,0,0,0,0,0,0,0,0,0,t0+1,a.c 1 1+6,a.c 1 1+9,a.c 7 1+6,a.c 7 1+9,a.c 9 1+6,a.c 9 1+9,a.c 15 1+6,a.c 15 1+9,a.c 23 1+6,a.c 23 1+9,a.c 25 1+6,a.c 25 1+9]) (rV (rV (rV (rV (rV (rV (rV (rV (rV (rV (rV (rV (rV (rV (rV (rV (rV (rV (rV (rV (rV (rV (rV (rV (rV (rV (B0))))))))))))))))))))))))))) (λ_ _ _ _ _ h=>nomatch h)
noncomputable def jf:U2:=⟨#[108,111,99,97,108]⟩
noncomputable def s20_1:U2:=⟨#[105,46,108,111,99,97,108]⟩
noncomputable def qaL:U2:=⟨#[105,105,46,108,111,99,97,108]⟩
noncomputable def s20_3:U2:=⟨#[110,46,105,46,108,111,99,97,108]⟩
noncomputable def qaK:U2:=⟨#[105,46,105,46,108,111,99,97,108]⟩
noncomputable def qdw:U2:=⟨#[105,105,46,105,46,108,111,99,97,108]⟩
noncomputable def s20_6:U2:=⟨#[110,46,105,105,46,108,111,99,97,108]⟩
noncomputable def s20_7:U2:=⟨#[110,46,110,46,105,46,108,111,99,97,108]⟩
noncomputable def qg5:U2:=⟨#[105,46,110,46,105,46,108,111,99,97,108]⟩
noncomputable def qg4:U2:=⟨#[105,105,46,110,46,105,46,108,111,99,97,108]⟩
noncomputable def u6:U2:=⟨#[110,46,105,46,105,46,108,111,99,97,108]⟩
noncomputable def qel:U2:=⟨#[105,46,105,46,105,46,108,111,99,97,108]⟩
noncomputable def qek:U2:=⟨#[105,105,46,105,46,105,46,108,111,99,97,108]⟩
noncomputable def u5:U2:=⟨#[110,46,105,105,46,105,46,108,111,99,97,108]⟩
noncomputable def qbM:U2:=⟨#[110,46,110,46,105,105,46,108,111,99,97,108]⟩
noncomputable def u4:U2:=⟨#[105,46,110,46,105,105,46,108,111,99,97,108]⟩
noncomputable def s20_16:U2:=⟨#[46,105,46,108,111,99,97,108]⟩
noncomputable def s20_17:U2:=⟨#[46,105,105,46,108,111,99,97,108]⟩
noncomputable def qpS:U2:=⟨#[46,110,46,105,46,108,111,99,97,108]⟩
noncomputable def qiR:U2:=⟨#[46,105,46,105,46,108,111,99,97,108]⟩
noncomputable def qiQ:U2:=⟨#[46,105,105,46,105,46,108,111,99,97,108]⟩
noncomputable def qpR:U2:=⟨#[46,110,46,105,105,46,108,111,99,97,108]⟩
noncomputable def qnE:List U2:=[jf,s20_1,qaL,s20_3,qaK,qdw,s20_6,s20_7,qg5,qg4,u6,qel,qek,u5,qbM,u4]
noncomputable def je:U2:=⟨#[120,46,110,101,116]⟩
noncomputable def s21_1:U2:=⟨#[105,46,120,46,110,101,116]⟩
noncomputable def qaJ:U2:=⟨#[105,105,46,120,46,110,101,116]⟩
noncomputable def s21_3:U2:=⟨#[110,46,105,46,120,46,110,101,116]⟩
noncomputable def qaI:U2:=⟨#[105,46,105,46,120,46,110,101,116]⟩
noncomputable def qdv:U2:=⟨#[105,105,46,105,46,120,46,110,101,116]⟩
noncomputable def s21_6:U2:=⟨#[110,46,105,105,46,120,46,110,101,116]⟩
noncomputable def s21_7:U2:=⟨#[110,46,110,46,105,46,120,46,110,101,116]⟩
noncomputable def qg3:U2:=⟨#[105,46,110,46,105,46,120,46,110,101,116]⟩
noncomputable def qg2:U2:=⟨#[105,105,46,110,46,105,46,120,46,110,101,116]⟩
noncomputable def u2:U2:=⟨#[110,46,105,46,105,46,120,46,110,101,116]⟩
noncomputable def qej:U2:=⟨#[105,46,105,46,105,46,120,46,110,101,116]⟩
noncomputable def qei:U2:=⟨#[105,105,46,105,46,105,46,120,46,110,101,116]⟩
noncomputable def uZ:U2:=⟨#[110,46,105,105,46,105,46,120,46,110,101,116]⟩
noncomputable def qbL:U2:=⟨#[110,46,110,46,105,105,46,120,46,110,101,116]⟩
noncomputable def uY:U2:=⟨#[105,46,110,46,105,105,46,120,46,110,101,116]⟩
noncomputable def s21_16:U2:=⟨#[46,105,46,120,46,110,101,116]⟩
noncomputable def s21_17:U2:=⟨#[46,105,105,46,120,46,110,101,116]⟩
noncomputable def qpQ:U2:=⟨#[46,110,46,105,46,120,46,110,101,116]⟩
noncomputable def qiP:U2:=⟨#[46,105,46,105,46,120,46,110,101,116]⟩
noncomputable def qiO:U2:=⟨#[46,105,105,46,105,46,120,46,110,101,116]⟩
noncomputable def qpP:U2:=⟨#[46,110,46,105,105,46,120,46,110,101,116]⟩
noncomputable def qnD:List U2:=[je,s21_1,qaJ,s21_3,qaI,qdv,s21_6,s21_7,qg3,qg2,u2,qej,qei,uZ,qbL,uY]
noncomputable def jd:U2:=⟨#[121,46,120,108,111,99,97,108]⟩
noncomputable def s22_1:U2:=⟨#[105,46,121,46,120,108,111,99,97,108]⟩
noncomputable def qaH:U2:=⟨#[105,105,46,121,46,120,108,111,99,97,108]⟩
noncomputable def s22_3:U2:=⟨#[110,46,105,46,121,46,120,108,111,99,97,108]⟩
noncomputable def qaG:U2:=⟨#[105,46,105,46,121,46,120,108,111,99,97,108]⟩
noncomputable def qdu:U2:=⟨#[105,105,46,105,46,121,46,120,108,111,99,97,108]⟩
noncomputable def s22_6:U2:=⟨#[110,46,105,105,46,121,46,120,108,111,99,97,108]⟩
noncomputable def s22_7:U2:=⟨#[110,46,110,46,105,46,121,46,120,108,111,99,97,108]⟩
noncomputable def qg1:U2:=⟨#[105,46,110,46,105,46,121,46,120,108,111,99,97,108]⟩
noncomputable def qg0:U2:=⟨#[105,105,46,110,46,105,46,121,46,120,108,111,99,97,108]⟩
noncomputable def uX:U2:=⟨#[110,46,105,46,105,46,121,46,120,108,111,99,97,108]⟩
noncomputable def qeh:U2:=⟨#[105,46,105,46,105,46,121,46,120,108,111,99,97,108]⟩
noncomputable def qeg:U2:=⟨#[105,105,46,105,46,105,46,121,46,120,108,111,99,97,108]⟩
noncomputable def uW:U2:=⟨#[110,46,105,105,46,105,46,121,46,120,108,111,99,97,108]⟩
noncomputable def qbK:U2:=⟨#[110,46,110,46,105,105,46,121,46,120,108,111,99,97,108]⟩
noncomputable def uV:U2:=⟨#[105,46,110,46,105,105,46,121,46,120,108,111,99,97,108]⟩
noncomputable def s22_16:U2:=⟨#[46,105,46,121,46,120,108,111,99,97,108]⟩
noncomputable def s22_17:U2:=⟨#[46,105,105,46,121,46,120,108,111,99,97,108]⟩
noncomputable def qpO:U2:=⟨#[46,110,46,105,46,121,46,120,108,111,99,97,108]⟩
noncomputable def qiN:U2:=⟨#[46,105,46,105,46,121,46,120,108,111,99,97,108]⟩
noncomputable def qiM:U2:=⟨#[46,105,105,46,105,46,121,46,120,108,111,99,97,108]⟩
noncomputable def qpN:U2:=⟨#[46,110,46,105,105,46,121,46,120,108,111,99,97,108]⟩
noncomputable def qnC:List U2:=[jd,s22_1,qaH,s22_3,qaG,qdu,s22_6,s22_7,qg1,qg0,uX,qeh,qeg,uW,qbK,uV]
noncomputable def hintsTwice7:List Nat:=hx 0x1232d09b1e30d093ee80c3ee810f2fd0911e2ed1230f2dd093ae2cd1270f2bd1e8fe29d22d088fe0a8ee28d128ee27d0971e26d1290f25d1b1ce24d1b72e23d1ecce21d15d08cce091de20d12cae1fd0965e1ed1280f1dd1b1ce1cd1baee1bd093ee80c3ee810f1ad0911e19d1230f18d0954e17d1270f16d1e8ce14d0dd0744e081de13d128be12d098be11d1290f10d1b1ce0fd1b6fe0ed0953e40c53e902111010cd03d0743e071de0bd20613e240f5010f0ad2f20f09d1270f08d1b1ce07d061ce0720e15f310f06d1f11f01d0f36f05d6f04d01011002d000d
theorem qbt:(∀{k0 k1 k2 k3 k4 k5 k6 k7 k8 k9 k10 k11 k12 k13 k14 k15:U1} {lv:Nat},VC w 2 (wy qnE [k0,k1,k2,k3,k4,k5,k6,k7,k8,k9,k10,k11,k12,k13,k14,k15] lv [0,19,49,38,98,74,164,93,213]))∧(∀{k0 k1 k2 k3 k4 k5 k6 k7 k8 k9 k10 k11 k12 k13 k14 k15:U1} {lv:Nat},VC w 2 (wy qnD [k0,k1,k2,k3,k4,k5,k6,k7,k8,k9,k10,k11,k12,k13,k14,k15] lv [0,19,49,38,98,74,164,93,213]))∧(∀{k0 k1 k2 k3 k4 k5 k6 k7 k8 k9 k10 k11 k12 k13 k14 k15:U1} {lv:Nat},VC w 2 (wy qnC [k0,k1,k2,k3,k4,k5,k6,k7,k8,k9,k10,k11,k12,k13,k14,k15] lv [0,19,49,38,98,74,164,93,213])):=by
 refine ⟨?_,?_,?_⟩
 ·intro k0 k1 k2 k3 k4 k5 k6 k7 k8 k9 k10 k11 k12 k13 k14 k15 lv;exact vcr 1 2340 [41] hintsTwice7 [] [(rC 33 s20_3 s20_16),(rC 7 s20_3 s20_16),(rC 32 s20_6 s20_17),(rC 7 s20_6 s20_17),(rC 17 s20_7 qpS),(rC 5 s20_3 s20_16),(rC 29 u6 qiR),(rC 7 u6 qiR),(rC 35 u5 qiQ),(rC 7 u5 qiQ),(rC 20 qbM qpR),(rC 5 s20_6 s20_17)] (λ_ _ _ _=>[]) (λa N t0 gN=>[a.c 9 0+2,0,0,0,0,0,0,0,0,0,0,0,0,0,0,0,0,t0+1,a.c 1 1+6,a.c 1 1+9,a.c 3 1+6,a.c 3 1+9,a.c 7 1+6,a.c 7 1+9,a.c 9 1+6,a.c 9 1+9]) (rV (rV (rV (rV (rV (rV (rV (rV (rV (rV (rV (rV (B0))))))))))))) (λ_ _ _ _ _ h=>nomatch h)
 ·intro k0 k1 k2 k3 k4 k5 k6 k7 k8 k9 k10 k11 k12 k13 k14 k15 lv;exact vcr 1 2340 [41] hintsTwice7 [] [(rC 33 s21_3 s21_16),(rC 7 s21_3 s21_16),(rC 32 s21_6 s21_17),(rC 7 s21_6 s21_17),(rC 17 s21_7 qpQ),(rC 5 s21_3 s21_16),(rC 29 u2 qiP),(rC 7 u2 qiP),(rC 35 uZ qiO),(rC 7 uZ qiO),(rC 20 qbL qpP),(rC 5 s21_6 s21_17)] (λ_ _ _ _=>[]) (λa N t0 gN=>[a.c 9 0+2,0,0,0,0,0,0,0,0,0,0,0,0,0,0,0,0,t0+1,a.c 1 1+6,a.c 1 1+9,a.c 3 1+6,a.c 3 1+9,a.c 7 1+6,a.c 7 1+9,a.c 9 1+6,a.c 9 1+9]) (rV (rV (rV (rV (rV (rV (rV (rV (rV (rV (rV (rV (B0))))))))))))) (λ_ _ _ _ _ h=>nomatch h)
 ·intro k0 k1 k2 k3 k4 k5 k6 k7 k8 k9 k10 k11 k12 k13 k14 k15 lv;exact vcr 1 2340 [41] hintsTwice7 [] [(rC 33 s22_3 s22_16),(rC 7 s22_3 s22_16),(rC 32 s22_6 s22_17),(rC 7 s22_6 s22_17),(rC 17 s22_7 qpO),(rC 5 s22_3 s22_16),(rC 29 uX qiN),(rC 7 uX qiN),(rC 35 uW qiM),(rC 7 uW qiM),(rC 20 qbK qpN),(rC 5 s22_6 s22_17)] (λ_ _ _ _=>[]) (λa N t0 gN=>[a.c 9 0+2,0,0,0,0,0,0,0,0,0,0,0,0,0,0,0,0,t0+1,a.c 1 1+6,a.c 1 1+9,a.c 3 1+6,a.c 3 1+9,a.c 7 1+6,a.c 7 1+9,a.c 9 1+6,a.c 9 1+9]) (rV (rV (rV (rV (rV (rV (rV (rV (rV (rV (rV (rV (B0))))))))))))) (λ_ _ _ _ _ h=>nomatch h)
noncomputable def jc:U2:=⟨#[108,111,99,97,108]⟩
noncomputable def wx:U2:=⟨#[105,46,108,111,99,97,108]⟩
noncomputable def ua:U2:=⟨#[105,105,46,108,111,99,97,108]⟩
noncomputable def qdt:U2:=⟨#[105,105,105,46,108,111,99,97,108]⟩
noncomputable def s30_4:U2:=⟨#[110,46,105,46,108,111,99,97,108]⟩
noncomputable def qgZ:U2:=⟨#[105,46,105,46,108,111,99,97,108]⟩
noncomputable def qgY:U2:=⟨#[105,105,46,105,46,108,111,99,97,108]⟩
noncomputable def qgX:U2:=⟨#[105,105,105,46,105,46,108,111,99,97,108]⟩
noncomputable def s30_8:U2:=⟨#[110,46,105,105,46,108,111,99,97,108]⟩
noncomputable def qgW:U2:=⟨#[105,46,105,105,46,108,111,99,97,108]⟩
noncomputable def qef:U2:=⟨#[105,105,46,105,105,46,108,111,99,97,108]⟩
noncomputable def qee:U2:=⟨#[105,105,105,46,105,105,46,108,111,99,97,108]⟩
noncomputable def s30_12:U2:=⟨#[110,46,105,105,105,46,108,111,99,97,108]⟩
noncomputable def qbJ:U2:=⟨#[110,46,110,46,105,46,108,111,99,97,108]⟩
noncomputable def qed:U2:=⟨#[105,46,110,46,105,46,108,111,99,97,108]⟩
noncomputable def uU:U2:=⟨#[105,105,46,110,46,105,46,108,111,99,97,108]⟩
noncomputable def s30_16:U2:=⟨#[46,105,46,108,111,99,97,108]⟩
noncomputable def s30_17:U2:=⟨#[46,105,105,46,108,111,99,97,108]⟩
noncomputable def qiL:U2:=⟨#[46,105,105,105,46,108,111,99,97,108]⟩
noncomputable def qpM:U2:=⟨#[46,110,46,105,46,108,111,99,97,108]⟩
noncomputable def qnB:List U2:=[jc,wx,ua,qdt,s30_4,qgZ,qgY,qgX,s30_8,qgW,qef,qee,s30_12,qbJ,qed,uU]
noncomputable def jb:U2:=⟨#[120,46,110,101,116]⟩
noncomputable def ww:U2:=⟨#[105,46,120,46,110,101,116]⟩
noncomputable def v9:U2:=⟨#[105,105,46,120,46,110,101,116]⟩
noncomputable def qds:U2:=⟨#[105,105,105,46,120,46,110,101,116]⟩
noncomputable def s31_4:U2:=⟨#[110,46,105,46,120,46,110,101,116]⟩
noncomputable def qgV:U2:=⟨#[105,46,105,46,120,46,110,101,116]⟩
noncomputable def qgU:U2:=⟨#[105,105,46,105,46,120,46,110,101,116]⟩
noncomputable def qgT:U2:=⟨#[105,105,105,46,105,46,120,46,110,101,116]⟩
noncomputable def s31_8:U2:=⟨#[110,46,105,105,46,120,46,110,101,116]⟩
noncomputable def qgS:U2:=⟨#[105,46,105,105,46,120,46,110,101,116]⟩
noncomputable def qec:U2:=⟨#[105,105,46,105,105,46,120,46,110,101,116]⟩
noncomputable def qeb:U2:=⟨#[105,105,105,46,105,105,46,120,46,110,101,116]⟩
noncomputable def s31_12:U2:=⟨#[110,46,105,105,105,46,120,46,110,101,116]⟩
noncomputable def qbI:U2:=⟨#[110,46,110,46,105,46,120,46,110,101,116]⟩
noncomputable def qea:U2:=⟨#[105,46,110,46,105,46,120,46,110,101,116]⟩
noncomputable def uT:U2:=⟨#[105,105,46,110,46,105,46,120,46,110,101,116]⟩
noncomputable def s31_16:U2:=⟨#[46,105,46,120,46,110,101,116]⟩
noncomputable def s31_17:U2:=⟨#[46,105,105,46,120,46,110,101,116]⟩
noncomputable def qiK:U2:=⟨#[46,105,105,105,46,120,46,110,101,116]⟩
noncomputable def qpL:U2:=⟨#[46,110,46,105,46,120,46,110,101,116]⟩
noncomputable def qnA:List U2:=[jb,ww,v9,qds,s31_4,qgV,qgU,qgT,s31_8,qgS,qec,qeb,s31_12,qbI,qea,uT]
noncomputable def ja:U2:=⟨#[121,46,120,108,111,99,97,108]⟩
noncomputable def wv:U2:=⟨#[105,46,121,46,120,108,111,99,97,108]⟩
noncomputable def v8:U2:=⟨#[105,105,46,121,46,120,108,111,99,97,108]⟩
noncomputable def qdr:U2:=⟨#[105,105,105,46,121,46,120,108,111,99,97,108]⟩
noncomputable def s32_4:U2:=⟨#[110,46,105,46,121,46,120,108,111,99,97,108]⟩
noncomputable def qgR:U2:=⟨#[105,46,105,46,121,46,120,108,111,99,97,108]⟩
noncomputable def qgQ:U2:=⟨#[105,105,46,105,46,121,46,120,108,111,99,97,108]⟩
noncomputable def qgP:U2:=⟨#[105,105,105,46,105,46,121,46,120,108,111,99,97,108]⟩
noncomputable def s32_8:U2:=⟨#[110,46,105,105,46,121,46,120,108,111,99,97,108]⟩
noncomputable def qgO:U2:=⟨#[105,46,105,105,46,121,46,120,108,111,99,97,108]⟩
noncomputable def qd9:U2:=⟨#[105,105,46,105,105,46,121,46,120,108,111,99,97,108]⟩
noncomputable def qd8:U2:=⟨#[105,105,105,46,105,105,46,121,46,120,108,111,99,97,108]⟩
noncomputable def s32_12:U2:=⟨#[110,46,105,105,105,46,121,46,120,108,111,99,97,108]⟩
noncomputable def qbH:U2:=⟨#[110,46,110,46,105,46,121,46,120,108,111,99,97,108]⟩
noncomputable def qd7:U2:=⟨#[105,46,110,46,105,46,121,46,120,108,111,99,97,108]⟩
noncomputable def uS:U2:=⟨#[105,105,46,110,46,105,46,121,46,120,108,111,99,97,108]⟩
noncomputable def s32_16:U2:=⟨#[46,105,46,121,46,120,108,111,99,97,108]⟩
noncomputable def s32_17:U2:=⟨#[46,105,105,46,121,46,120,108,111,99,97,108]⟩
noncomputable def qiJ:U2:=⟨#[46,105,105,105,46,121,46,120,108,111,99,97,108]⟩
noncomputable def qpK:U2:=⟨#[46,110,46,105,46,121,46,120,108,111,99,97,108]⟩
noncomputable def qnz:List U2:=[ja,wv,v8,qdr,s32_4,qgR,qgQ,qgP,s32_8,qgO,qd9,qd8,s32_12,qbH,qd7,uS]
noncomputable def hintsTwice8:List Nat:=hx 0x1229d091ce27d1bafe26d093ee80c3ee810f25d0911e24d1230f23d0938e22d1270f21d1ea9e1fd17d0745e091de1ed12a8e1dd09a8e1cd12a0f1bd1b1ce1ad1b1ce19d1b70e18d1ea8e16d0ed0744e081de15d12a7e14d09a7e13d12a0f12d1b1ce11d1b1ce10d1b6fe0fd0953e40c53e902111010dd03d0743e071de0cd20613e240f5010f0bd2f20f0ad1280f09d1b1ce08d1b1ce07d061ce0720e15f310f06d1f11f01d0f36f05d6f04d01011002d000d
theorem qbs:(∀{k0 k1 k2 k3 k4 k5 k6 k7 k8 k9 k10 k11 k12 k13 k14 k15:U1} {lv:Nat},VC w 2 (wy qnB [k0,k1,k2,k3,k4,k5,k6,k7,k8,k9,k10,k11,k12,k13,k14,k15] lv [0,20,65,40,130,60,195]))∧(∀{k0 k1 k2 k3 k4 k5 k6 k7 k8 k9 k10 k11 k12 k13 k14 k15:U1} {lv:Nat},VC w 2 (wy qnA [k0,k1,k2,k3,k4,k5,k6,k7,k8,k9,k10,k11,k12,k13,k14,k15] lv [0,20,65,40,130,60,195]))∧(∀{k0 k1 k2 k3 k4 k5 k6 k7 k8 k9 k10 k11 k12 k13 k14 k15:U1} {lv:Nat},VC w 2 (wy qnz [k0,k1,k2,k3,k4,k5,k6,k7,k8,k9,k10,k11,k12,k13,k14,k15] lv [0,20,65,40,130,60,195])):=by
 refine ⟨?_,?_,?_⟩
 ·intro k0 k1 k2 k3 k4 k5 k6 k7 k8 k9 k10 k11 k12 k13 k14 k15 lv;exact vcr 1 2019 [31] hintsTwice8 [] [(rC 41 s30_4 s30_16),(rC 7 s30_4 s30_16),(rC 40 s30_8 s30_17),(rC 7 s30_8 s30_17),(rC 41 s30_12 qiL),(rC 7 s30_12 qiL),(rC 18 qbJ qpM),(rC 5 s30_4 s30_16)] (λ_ _ _ _=>[]) (λa N t0 gN=>[a.c 5 0+2,0,0,0,0,0,0,0,0,0,0,0,0,0,0,0,0,t0+1,a.c 1 1+6,a.c 1 1+9,a.c 3 1+6,a.c 3 1+9,a.c 5 1+6,a.c 5 1+9]) (rV (rV (rV (rV (rV (rV (rV (rV (B0))))))))) (λ_ _ _ _ _ h=>nomatch h)
 ·intro k0 k1 k2 k3 k4 k5 k6 k7 k8 k9 k10 k11 k12 k13 k14 k15 lv;exact vcr 1 2019 [31] hintsTwice8 [] [(rC 41 s31_4 s31_16),(rC 7 s31_4 s31_16),(rC 40 s31_8 s31_17),(rC 7 s31_8 s31_17),(rC 41 s31_12 qiK),(rC 7 s31_12 qiK),(rC 18 qbI qpL),(rC 5 s31_4 s31_16)] (λ_ _ _ _=>[]) (λa N t0 gN=>[a.c 5 0+2,0,0,0,0,0,0,0,0,0,0,0,0,0,0,0,0,t0+1,a.c 1 1+6,a.c 1 1+9,a.c 3 1+6,a.c 3 1+9,a.c 5 1+6,a.c 5 1+9]) (rV (rV (rV (rV (rV (rV (rV (rV (B0))))))))) (λ_ _ _ _ _ h=>nomatch h)
 ·intro k0 k1 k2 k3 k4 k5 k6 k7 k8 k9 k10 k11 k12 k13 k14 k15 lv;exact vcr 1 2019 [31] hintsTwice8 [] [(rC 41 s32_4 s32_16),(rC 7 s32_4 s32_16),(rC 40 s32_8 s32_17),(rC 7 s32_8 s32_17),(rC 41 s32_12 qiJ),(rC 7 s32_12 qiJ),(rC 18 qbH qpK),(rC 5 s32_4 s32_16)] (λ_ _ _ _=>[]) (λa N t0 gN=>[a.c 5 0+2,0,0,0,0,0,0,0,0,0,0,0,0,0,0,0,0,t0+1,a.c 1 1+6,a.c 1 1+9,a.c 3 1+6,a.c 3 1+9,a.c 5 1+6,a.c 5 1+9]) (rV (rV (rV (rV (rV (rV (rV (rV (B0))))))))) (λ_ _ _ _ _ h=>nomatch h)
noncomputable def qhz:U2:=⟨#[110,46,105,46,110,46,110,46,110,46,105,46,108,111,99,97,108,46,55]⟩
noncomputable def zN:List Nat:=hx 0x13005d00110060ce03d001121f10f02d2f11001d000d
theorem qjf {t:U1}:VC w 1 (zH qhz qhz t):=vcr 0 169 [] zN [] [] (λ_ _ _ _=>[]) (λa N t0 gN=>[t]) B0 (λ_ _ _ _ _ h=>nomatch h)
noncomputable def qhy:U2:=⟨#[110,46,105,46,110,46,110,46,110,46,105,46,120,46,110,101,116,46,55]⟩
theorem qje {t:U1}:VC w 1 (zH qhy qhy t):=vcr 0 169 [] zN [] [] (λ_ _ _ _=>[]) (λa N t0 gN=>[t]) B0 (λ_ _ _ _ _ h=>nomatch h)
noncomputable def qhx:U2:=⟨#[110,46,105,46,110,46,110,46,110,46,105,46,121,46,120,108,111,99,97,108,46,55]⟩
theorem qjd {t:U1}:VC w 1 (zH qhx qhx t):=vcr 0 171 [] zN [] [] (λ_ _ _ _=>[]) (λa N t0 gN=>[t]) B0 (λ_ _ _ _ _ h=>nomatch h)
noncomputable def qhw:U2:=⟨#[105,46,110,46,105,105,46,108,111,99,97,108,46,55]⟩
theorem qjc {t:U1}:VC w 1 (zH qhw qhw t):=vcr 0 166 [] zN [] [] (λ_ _ _ _=>[]) (λa N t0 gN=>[t]) B0 (λ_ _ _ _ _ h=>nomatch h)
noncomputable def qhv:U2:=⟨#[105,46,110,46,105,105,46,120,46,110,101,116,46,55]⟩
theorem qjb {t:U1}:VC w 1 (zH qhv qhv t):=vcr 0 166 [] zN [] [] (λ_ _ _ _=>[]) (λa N t0 gN=>[t]) B0 (λ_ _ _ _ _ h=>nomatch h)
noncomputable def qhu:U2:=⟨#[105,46,110,46,105,105,46,121,46,120,108,111,99,97,108,46,55]⟩
theorem qja {t:U1}:VC w 1 (zH qhu qhu t):=vcr 0 168 [] zN [] [] (λ_ _ _ _=>[]) (λa N t0 gN=>[t]) B0 (λ_ _ _ _ _ h=>nomatch h)
noncomputable def qht:U2:=⟨#[105,105,46,110,46,105,46,108,111,99,97,108,46,55]⟩
theorem qi9 {t:U1}:VC w 1 (zH qht qht t):=vcr 0 166 [] zN [] [] (λ_ _ _ _=>[]) (λa N t0 gN=>[t]) B0 (λ_ _ _ _ _ h=>nomatch h)
noncomputable def qhs:U2:=⟨#[105,105,46,110,46,105,46,120,46,110,101,116,46,55]⟩
theorem qi8 {t:U1}:VC w 1 (zH qhs qhs t):=vcr 0 166 [] zN [] [] (λ_ _ _ _=>[]) (λa N t0 gN=>[t]) B0 (λ_ _ _ _ _ h=>nomatch h)
noncomputable def qhr:U2:=⟨#[105,105,46,110,46,105,46,121,46,120,108,111,99,97,108,46,55]⟩
theorem qi7 {t:U1}:VC w 1 (zH qhr qhr t):=vcr 0 168 [] zN [] [] (λ_ _ _ _=>[]) (λa N t0 gN=>[t]) B0 (λ_ _ _ _ _ h=>nomatch h)
end
noncomputable def jo (xs:List T1) (n:Nat):Ctr where
 code ads := .call (.ref 289) ⟨[.ref (adF ads 0 0)],[]⟩
 ok ads:=[(adF ads 0 1,194),(adF ads 0 2,201)]
 pre _:=[qd xs n,yB [],yB []]
 res _ _ := .done (.ok (.ret (.bool true)))
 post _ ν:=[qd xs n,zU (ν 3),qn (ν 4)]
 news _ _:=[]
 frz:=[]
 frs:=some λ_=>[]
noncomputable def qir (C:Ctr):Ctr:={C with fside:=none}
noncomputable def zV (xs:List T1) (n:Nat) (a:Int) (ys:List T1) (os:List Obj):Ctr:=qir (qgn xs n (.int a (qbz (at0 os 1) 0)) .none (.int 2 (qbz (at0 os 1) 2)) ys (some a) none (some 2))
noncomputable def tkS (o:Obj) (k:Nat):U1:=match lGet (qp o) k with
 | some v=>jR v
 | none=>0
noncomputable def qps:Nat→Nat→Obj→List U1
 | 0,_,_=>[]
 | k+1,i,o=>tkS o i::qps k (i+1) o
noncomputable def hostsAt (p:T4) (fd:T5) (dress:Int) (lad:List Int) (hs:List U2) (c:Code) (os:List Obj):Ctr:=ve p fd (qhW c) (dcN (at0 os 0)) dress (jR (qmC (at0 os 4))) lad (qps lad.length 0 (at0 os 5)) (qB (at0 os 5)) (qB (at0 os 2)) hs
noncomputable def lostAt (hs:List U2) (L:List Int) (os:List Obj):Ctr:=wy hs [tkS (at0 os 0) 0,tkS (at0 os 0) 1,tkS (at0 os 0) 2,tkS (at0 os 0) 3,tkS (at0 os 0) 4,tkS (at0 os 0) 5,tkS (at0 os 0) 6,tkS (at0 os 0) 7,tkS (at0 os 0) 8,tkS (at0 os 0) 9,tkS (at0 os 0) 10,tkS (at0 os 0) 11,tkS (at0 os 0) 12,tkS (at0 os 0) 13,tkS (at0 os 0) 14,tkS (at0 os 0) 15] (qB (at0 os 0)) L
noncomputable def valsAt (l:List Int) (vs:List T1):List T1:=match l with
 | []=>[]
 | i::l=>match vs with
  | [] => .int i 0::valsAt l []
  | v::vs => .int i (jR v)::valsAt l vs
noncomputable def j9 (l:List Int) (r:Array UInt8) (os:List Obj):Ctr:=qkg (valsAt l (qp (at0 os 2))) (qB (at0 os 2)) r
noncomputable def jZ (p:T4) (r0 r1:Int) (c:Code) (os:List Obj):Ctr:=vR (fdX p 289) (uF (uE c 0)) r0 (tkS (at0 os 0) 0) r1 (tkS (at0 os 0) 1) (qB (at0 os 0)) (at0 os 1).data (at0 os 2) (at0 os 3) (at0 os 4) (at0 os 5) (at0 os 6) (at0 os 7) (at0 os 8)
noncomputable def qsC (o:Obj):Option T1:=match o.data with
 | .cell v=>v
 | _=>none
noncomputable def zf (w:T3) (hs lad rs:List T1) (i:Nat) (room:Int) (rt:U1):Prop:=(∃name tn ss,RoomOk w hs lad room name tn ss)∧rs[i]? = some (.int room rt)
noncomputable def qs8 (o:Obj):LwT:=⟨tkK (z7 (z6 o) 0).key,tkK (z7 (z6 o) 1).key,tkK (z7 (z6 o) 2).key,tkK (z7 (z6 o) 3).key,tkK (z7 (z6 o) 4).key,tkK (z7 (z6 o) 5).key,(z7 (z6 o) 0).val,(z7 (z6 o) 1).val,(z7 (z6 o) 3).val,(z7 (z6 o) 4).val,dcN o⟩
noncomputable def zG (w:T3) (fd:T5) (i:Nat) (room:Int) (os:List Obj):Ctr:=qa9 (qg8 w.params fd (qs8 (at0 os 2)) (at0 os 2).slots (qp (at0 os 1)) (qB (at0 os 1)) i room (tkS (at0 os 1) i) (qsC (at0 os 6)) (at0 os 3) (at0 os 4) (at0 os 7) (at0 os 8) (at0 os 9) (qp (at0 os 10)) (qB (at0 os 10)) (qp (at0 os 11)) (qB (at0 os 11))) (zf w (qp (at0 os 10)) (qp (at0 os 11)) (qp (at0 os 1)) i room (tkS (at0 os 1) i))
noncomputable def qP:U2:=⟨#[46,55]⟩
noncomputable def reachAt7 (h15:U2) (c:Code):Ctr:=zH (h15++qP) (h15++qP) (qe c 0)
noncomputable def yZ (h:Int) (os:List Obj):Ctr:=qhG (qcV (at0 os 1)).hash (jR (qcV (at0 os 1)).key) h (jR (qcV (at0 os 1)).val) (qB (at0 os 0))
noncomputable def jV (b0 b1:Bool) (r0 r1 lead:Int) (n:Nat) (c:Code) (os:List Obj):Ctr:=zI b0 b1 r0 (tkS (at0 os 0) 0) r1 (tkS (at0 os 0) 1) (qB (at0 os 0)) (tkS (at0 os 1) 0) (tkS (at0 os 1) 1) (qB (at0 os 1)) (yo (at0 os 2)) (yB []) (λν=>qn (id (ν 4))) lead (qe c 2) n
noncomputable def qr (b0 b1:Bool) (r0 r1 lead:Int) (n:Nat) (c:Code) (os:List Obj):Ctr:=zI b0 b1 r0 (tkS (at0 os 0) 0) r1 (tkS (at0 os 0) 1) (qB (at0 os 0)) (tkS (at0 os 1) 0) (tkS (at0 os 1) 1) (qB (at0 os 1)) (yo (at0 os 2)) (qn (yo (at0 os 3))) (λ_=>qn (yo (at0 os 3))) lead (qe c 2) n
noncomputable def qE (os:List Obj):Ctr:=qmu (qp (at0 os 0)) (qB (at0 os 0)) (qp (at0 os 1)) (qB (at0 os 1))
noncomputable def zQ (ne:Bool) (xs ls:List T1):Prop:=qH xs∧qH ls∧xs.length≤1000∧xs.isEmpty = !ne
noncomputable def yw (p:T4) (fd:T5) (ne:Bool) (c:Code) (os:List Obj):Ctr:=qa9 (qfi p ne (wG fd (qhW c)) jP (dcN (at0 os 0)) (qp (at0 os 2)) (qB (at0 os 2)) (qB (at0 os 3)) (jI (qp (at0 os 5))) (wF (qp (at0 os 5)) (qB (at0 os 5)))) (zQ ne (qp (at0 os 2)) (qp (at0 os 5)))
noncomputable def wW (num:Int) (wide:Nat) (r:Bool) (c:Code):Ctr:=wr num (qe c 0) wide (qe c 1) r
noncomputable def yc (x:Int) (r:Bool) (c:Code) (os:List Obj):Ctr:=inC (qp (at0 os 0)) (qB (at0 os 0)) x (qe c 1) r
noncomputable def jH (r:Bool):Ctr:=zW "int.__eq__" ⟨[.bool r, .bool r],[]⟩ λ_ => .bool true
noncomputable def yx (r:Bool) (os:List Obj):Ctr:=qjZ (qp (at0 os 0)) (qB (at0 os 0)) (qB (at0 os 1)) r
noncomputable def wA (b0 b1:Bool) (r0 r1 lead:Int) (n:Nat):List Int:=toldF (15-qb r0 lead) (15-qb r1 (-lead)) (stI b0) (stI b1) n
noncomputable def qc (ν:Nat→Nat) (b0 b1:Bool) (r0 r1 lead:Int) (n:Nat):List T1:=yL (wA b0 b1 r0 r1 lead n) (nuL ν 8 n)
noncomputable def frL (p:T4) (F:Nat) (c:Nat→Nat):Prop:=some [envLaw (fdX p 289) F c]=some [envLaw (fdX p 289) F c]
section
variable {w:T3}
theorem qcB:(∀(xs:List T1) (n:Nat) (E0 E1:List T1) (S0 S1 num:Int) (h0 h1 h2 h3 h4 h5 h6 h7 h8 h9 h10 h11 h12 h13 h14 h15:U2) (L:List Int) (rb:Bool) (n0 n1 n2:Nat),RunF w (jo xs n) 3 2282 [290,194,201] [] (hx 0x12014fd4dd040015d09d30050012305d84ed0204cd0049d24bd1f4030148d44d10130026f46d6f45d0103030143d41d110148110df1e3fd51f27d04d0093ed1633e80a33e880020f8804085f80f80a38e33390a2be990020f9903095f90f3bd0f22dd30a0fe330128d100892e29d047fe0f32d0bd0303cd7f3ad6f39d0f21fa2021f2221f13d4638d0111f36d00830d13e35d34d240ad6111110738e133d16d00205d0677e1fcc00bd1031d0022100604e074be080c3ae48606ece30d1112010cd7e1041002fd0131f1002cd1484e2ed00889e2ddaf0673e3123ae31528e30d28e303010030c13e33030028d110011111100220116f2ad07b0e129d7fff21f27d100d0811f26d0f25d1110121d1fd22d24d4f20d1f16d008011dd4f19d0031cd080be3020130f21501ad0112f18d0017d01041101b200ad009d1240014d05012d6f11d05701ce060ae2f090ce2220f111f10d0007d0020006d0f3303005d0f01d1001004d000d) [(1, .int num 0),(0, .int 0 0),(24, .bool false),(1, .bool false),(6, .bool false),(8, .bool false),(1, .bool false),oF,oT] [(cO 2 (zV xs n 0 E0) [0,11]),(cX 1 (λ_ os=>jS E0 (qB (at0 os 0)) S0) [12]),(cO 1 (zV xs n 1 E1) [0,13]),(cX 1 (λ_ os=>jS E1 (qB (at0 os 0)) S1) [14]),(cX 89 (λc os=>hostsAt w.params (fdY w.params) S1 [1,2,3,5,8,13,21] [h0,h1,h2,h3,h4,h5,h6,h7,h8,h9,h10,h11,h12,h13,h14,h15] c os) [19,17,18,6,5,15]),(cO 0 (lostAt [h0,h1,h2,h3,h4,h5,h6,h7,h8,h9,h10,h11,h12,h13,h14,h15] L) [18]),(cX 2 (λc _=>apC (-num) (qe c 0) #[]) []),(cX 0 (λc _=>apC num (qe c 0) #[]) []),(cO 22 (j9 [] #[]) [28,29,24]),(cX 75 (λc os=>jZ w.params 0 0 c os) [38,3,4,5,6,7,8,9,10]),(cO 7 (zG w (fdY w.params) 0 0) [53,38,3,4,5,6,7,8,9,10,18,15]),(cO 0 (zG w (fdY w.params) 1 0) [53,38,3,4,5,6,7,8,9,10,18,15]),(cC 7 (zc h15 qP) []),(cC 0 (reachAt7 h15) []),(cC 3 (zc h15 qP) []),(cO 25 (yZ (15-0)) [44,43,1]),(cX 41 (λc os=>jV true false 0 0 0 n0 c os) [38,63,1,2]),(cX 0 (λc os=>qr false true 0 0 0 n1 c os) [38,65,1,2]),(cO 1 qE [64,66]),(cX 13 (λc os=>qr true true 0 0 0 n2 c os) [38,70,1,2]),(cO 1 qE [67,71]),(cX 7 (λc os=>yw w.params (fdY w.params) false c os) [77,75,72,76,8,20]),(cC 0 (wW num 1 rb) []),(cX 3 (λc os=>yc (-1) false c os) [72]),(cX 1 (λc os=>yc num rb c os) [20]),(cX 1 (λ_ _=>jH rb) []),(cO 1 (yx rb) [76,78]),(cX 1 (λ_ _=>jH rb) [])] (λa N t0 gN=>[(.bool (decide ((15:Int)-(15-0)=0)), .bool true),(.bool (decide ((15:Int)-0≥2 ^ 63)), .bool false),(.bool (decide ((15:Int)-0<0)), .bool false),(.bool (!((h15++qP).cps.toList==(h15++qP).cps.toList)), .bool false),(.bool (!(16*0+0==num)), .bool false),(.bool (decide (num≥(16:Int) ^ F0 0)), .bool false),(.bool (decide (num≥(16:Int) ^ F0 1)), .bool false),(.int (E9 S1 3) (a.c 3 1+2), .int 0 (a.c 3 1+2)),(.int (E9 (106+S0) 256) (a.c 1 1+2), .int num (a.c 1 1+2))]) (λa N t0 gN=>adF [a.c 17 4,a.c 22 4] 0) (λa N t0 gN=>[(((qc (a.c 22) true false 0 0 0 n0++qc (a.c 23) false true 0 0 0 n1)++qc (a.c 25) true true 0 0 0 n2).filter (jI (ladT L (nuT (a.c 5) L.length)))).isEmpty=rb,(∀v∈(ladT L (nuT (a.c 5) L.length)),∃i u,v=Value.int i u)∧(ladT L (nuT (a.c 5) L.length)).any (λv=>qD v==num)=rb,(∀v∈(qc (a.c 22) true false 0 0 0 n0++qc (a.c 23) false true 0 0 0 n1)++qc (a.c 25) true true 0 0 0 n2,∃i u,v=Value.int i u)∧((qc (a.c 22) true false 0 0 0 n0++qc (a.c 23) false true 0 0 0 n1)++qc (a.c 25) true true 0 0 0 n2).any (λv=>qD v == -1)=false,zQ false ((qc (a.c 22) true false 0 0 0 n0++qc (a.c 23) false true 0 0 0 n1)++qc (a.c 25) true true 0 0 0 n2) (ladT L (nuT (a.c 5) L.length)),(qc (a.c 22) true false 0 0 0 n0++qc (a.c 23) false true 0 0 0 n1).length+(qc (a.c 25) true true 0 0 0 n2).length≤1000,(qc (a.c 22) true false 0 0 0 n0).length+(qc (a.c 23) false true 0 0 0 n1).length≤1000,zf w (strsT [h0,h1,h2,h3,h4,h5,h6,h7,h8,h9,h10,h11,h12,h13,h14,h15] (nuT (a.c 4) 16)) (ladT [1,2,3,5,8,13,21] [a.c 3 1+5,a.c 3 1+7,a.c 3 1+16,a.c 3 1+25,a.c 3 1+34,a.c 3 1+43,a.c 3 1+52]) [.int 0 (a.c 8 1+1), .int 0 (a.c 8 1+2)] 1 0 (a.c 8 1+2),zf w (strsT [h0,h1,h2,h3,h4,h5,h6,h7,h8,h9,h10,h11,h12,h13,h14,h15] (nuT (a.c 4) 16)) (ladT [1,2,3,5,8,13,21] [a.c 3 1+5,a.c 3 1+7,a.c 3 1+16,a.c 3 1+25,a.c 3 1+34,a.c 3 1+43,a.c 3 1+52]) [.int 0 (a.c 8 1+1), .int 0 (a.c 8 1+2)] 0 0 (a.c 8 1+1),frL w.params (N+0) (λi=>adF [N+1,N+2,N+3,N+4,N+5,N+6,N+7] 0 i)]))∧(∀(xs:List T1) (n:Nat) (E0 E1:List T1) (S0 S1 num:Int) (h0 h1 h2 h3 h4 h5 h6 h7 h8 h9 h10 h11 h12 h13 h14 h15:U2) (L:List Int) (rb:Bool) (n0 n1 n2:Nat) (r1:Int) (c1:UInt8),RunF w (jo xs n) 3 2356 [290,194,201] [] (hx 0x12014fd4dd040015d09d30050012305d8004ed0204cd0049d24bd1f4030148d44d10130026f46d6f45d0103030143d41d110148110df1e3fd51f27d04d0093ed1633e80a33e880020f8804085f80f80a38e33390a2be990020f9903095f90f3bd0f22dd30a0fe330128d100892e29d047fe0f32d0bd0303cd7f3ad6f39d0f21fa2021f2221f13d4638d0111f36d00830d13e35d34d240ad6111110738e133d16d00205d0677e1fcc00bd1031d0022100604e074be080c3ae48606ece30d1112010cd7e1041002fd0131f1002cd1484e2ed00889e2ddaf0673e3123ae31528e30d28e303010030c13e33030028d110011111100220116f2ad07c8e129d7fff21f27d180a11f26d0f25d1110141fd00424d0625e0f21d22cb022d4f20d1f16d008011dd4f40041cd0140f30f19d1113020130f21501ad0112f18d0017d01041101b200ad009d1240014d05012d6f11d05701ce060ae2f090ce2220f111f10d0007d0020006d0f3303005d0f01d1001004d000d) [(1, .int num 0),(0, .int 0 0),(24, .bool false),(1, .bool true),(1, .bool false),(0, .int num 0),(0, .int r1 0),(7, .bool false),oT,oT,(6, .bool false),(1, .bool false),oF,oT] [(cO 2 (zV xs n 0 E0) [0,11]),(cX 1 (λ_ os=>jS E0 (qB (at0 os 0)) S0) [12]),(cO 1 (zV xs n 1 E1) [0,13]),(cX 1 (λ_ os=>jS E1 (qB (at0 os 0)) S1) [14]),(cX 89 (λc os=>hostsAt w.params (fdY w.params) S1 [1,2,3,5,8,13,21] [h0,h1,h2,h3,h4,h5,h6,h7,h8,h9,h10,h11,h12,h13,h14,h15] c os) [19,17,18,6,5,15]),(cO 0 (lostAt [h0,h1,h2,h3,h4,h5,h6,h7,h8,h9,h10,h11,h12,h13,h14,h15] L) [18]),(cX 2 (λc _=>apC (-num) (qe c 0) #[c1]) []),(cX 0 (λc _=>apC num (qe c 0) #[c1]) []),(cO 26 (j9 [65+r1] #[c1]) [28,29,24]),(cC 10 (j0 false (c1.toNat:Int) r1) []),(cX 70 (λc os=>jZ w.params 0 r1 c os) [38,3,4,5,6,7,8,9,10]),(cO 7 (zG w (fdY w.params) 0 0) [53,38,3,4,5,6,7,8,9,10,18,15]),(cO 0 (zG w (fdY w.params) 1 r1) [53,38,3,4,5,6,7,8,9,10,18,15]),(cC 7 (zc h15 qP) []),(cC 0 (reachAt7 h15) []),(cC 3 (zc h15 qP) []),(cO 25 (yZ (15-0)) [44,43,1]),(cX 41 (λc os=>jV true false 0 r1 0 n0 c os) [38,63,1,2]),(cX 0 (λc os=>qr false true 0 r1 0 n1 c os) [38,65,1,2]),(cO 1 qE [64,66]),(cX 13 (λc os=>qr true true 0 r1 0 n2 c os) [38,70,1,2]),(cO 1 qE [67,71]),(cX 7 (λc os=>yw w.params (fdY w.params) true c os) [77,75,72,76,8,20]),(cC 0 (wW num 1 rb) []),(cX 3 (λc os=>yc (-1) false c os) [72]),(cX 1 (λc os=>yc num rb c os) [20]),(cX 1 (λ_ _=>jH rb) []),(cO 1 (yx rb) [76,78]),(cX 1 (λ_ _=>jH rb) [])] (λa N t0 gN=>[(.bool (decide ((15:Int)-(15-0)=0)), .bool true),(.bool (decide ((15:Int)-0≥2 ^ 63)), .bool false),(.bool (decide ((15:Int)-0<0)), .bool false),(.bool (!((h15++qP).cps.toList==(h15++qP).cps.toList)), .bool false),(.bool (decide ((#[c1]:Array UInt8).toList=(#[c1]:Array UInt8).toList)), .bool true),(.bool (decide ((#[c1]:Array UInt8).toList=(#[c1]:Array UInt8).toList)), .bool true),(.bool (!(16*0+r1==num)), .bool false),(.int (E9 num 16) (a.c 7 1+14), .int r1 (a.c 7 1+14)),(.int (F6 num ((16:Int) ^ F0 0)) (a.c 7 1+12), .int num (a.c 7 1+12)),(.bool (E4 num ((16:Int) ^ F0 0)), .bool false),(.bool (decide (num≥(16:Int) ^ F0 0)), .bool true),(.bool (decide (num≥(16:Int) ^ F0 1)), .bool false),(.int (E9 S1 3) (a.c 3 1+2), .int 0 (a.c 3 1+2)),(.int (E9 (106+S0) 256) (a.c 1 1+2), .int num (a.c 1 1+2))]) (λa N t0 gN=>adF [a.c 18 4,a.c 23 4] 0) (λa N t0 gN=>[(((qc (a.c 23) true false 0 r1 0 n0++qc (a.c 24) false true 0 r1 0 n1)++qc (a.c 26) true true 0 r1 0 n2).filter (jI (ladT L (nuT (a.c 5) L.length)))).isEmpty=rb,(∀v∈(ladT L (nuT (a.c 5) L.length)),∃i u,v=Value.int i u)∧(ladT L (nuT (a.c 5) L.length)).any (λv=>qD v==num)=rb,(∀v∈(qc (a.c 23) true false 0 r1 0 n0++qc (a.c 24) false true 0 r1 0 n1)++qc (a.c 26) true true 0 r1 0 n2,∃i u,v=Value.int i u)∧((qc (a.c 23) true false 0 r1 0 n0++qc (a.c 24) false true 0 r1 0 n1)++qc (a.c 26) true true 0 r1 0 n2).any (λv=>qD v == -1)=false,zQ true ((qc (a.c 23) true false 0 r1 0 n0++qc (a.c 24) false true 0 r1 0 n1)++qc (a.c 26) true true 0 r1 0 n2) (ladT L (nuT (a.c 5) L.length)),(qc (a.c 23) true false 0 r1 0 n0++qc (a.c 24) false true 0 r1 0 n1).length+(qc (a.c 26) true true 0 r1 0 n2).length≤1000,(qc (a.c 23) true false 0 r1 0 n0).length+(qc (a.c 24) false true 0 r1 0 n1).length≤1000,zf w (strsT [h0,h1,h2,h3,h4,h5,h6,h7,h8,h9,h10,h11,h12,h13,h14,h15] (nuT (a.c 4) 16)) (ladT [1,2,3,5,8,13,21] [a.c 3 1+5,a.c 3 1+7,a.c 3 1+16,a.c 3 1+25,a.c 3 1+34,a.c 3 1+43,a.c 3 1+52]) [.int 0 (a.c 8 1+2), .int r1 (a.c 9 3)] 1 r1 (a.c 9 3),zf w (strsT [h0,h1,h2,h3,h4,h5,h6,h7,h8,h9,h10,h11,h12,h13,h14,h15] (nuT (a.c 4) 16)) (ladT [1,2,3,5,8,13,21] [a.c 3 1+5,a.c 3 1+7,a.c 3 1+16,a.c 3 1+25,a.c 3 1+34,a.c 3 1+43,a.c 3 1+52]) [.int 0 (a.c 8 1+2), .int r1 (a.c 9 3)] 0 0 (a.c 8 1+2),frL w.params (N+0) (λi=>adF [N+1,N+2,N+3,N+4,N+5,N+6,N+7] 0 i)]))∧(∀(xs:List T1) (n:Nat) (E0 E1:List T1) (S0 S1 num:Int) (h0 h1 h2 h3 h4 h5 h6 h7 h8 h9 h10 h11 h12 h13 h14 h15:U2) (L:List Int) (rb:Bool) (n0 n1 n2:Nat) (r1:Int) (c1:UInt8) (r0:Int) (c0:UInt8),RunF w (jo xs n) 3 2422 [290,194,201] [] (hx 0x12014fd4dd040015d09d30050012305d8004ed0204cd0049d24bd1f4030148d44d10130026f46d6f45d0103030143d41d110148110df1e3fd51f27d04d0093ed1633e80a33e880020f8804085f80f80a38e33390a2be990020f9903095f90f3bd0f22dd30a0fe330128d100892e29d047fe0f32d0bd0303cd7f3ad6f39d0f21fa2021f2221f13d4638d0111f36d00830d13e35d34d240ad6111110738e133d16d00205d0677e1fcc00bd1031d0022100604e074be080c3ae48606ece30d1112010cd7e1041002fd0131f1002cd1484e2ed00889e2ddaf0673e3123ae31528e30d28e303010030c13e33030028d110011111100220116f2ad07dee129d7fff21f27d180a11f26d0f25d1110141fd00424d0910e42243030625e0f21d22cb022d4f20d1f16d008011dd4f40041cd0a11e41114030140f30f19d111501ad0112f18d0017d01041101b200ad009d1240014d05012d6f11d05701ce060ae2f090ce2220f111f10d0007d0020006d0f3303005d0f01d1001004d000d) [(1, .int num 0),(0, .int 0 0),(24, .bool true),(1, .bool false),(0, .int r0 0),(0, .int r0 0),(2, .bool true),(1, .bool false),(0, .int num 0),(0, .int r1 0),(7, .bool false),oT,oT,(6, .bool false),(1, .bool false),oF,oT] [(cO 2 (zV xs n 0 E0) [0,11]),(cX 1 (λ_ os=>jS E0 (qB (at0 os 0)) S0) [12]),(cO 1 (zV xs n 1 E1) [0,13]),(cX 1 (λ_ os=>jS E1 (qB (at0 os 0)) S1) [14]),(cX 89 (λc os=>hostsAt w.params (fdY w.params) S1 [1,2,3,5,8,13,21] [h0,h1,h2,h3,h4,h5,h6,h7,h8,h9,h10,h11,h12,h13,h14,h15] c os) [19,17,18,6,5,15]),(cO 0 (lostAt [h0,h1,h2,h3,h4,h5,h6,h7,h8,h9,h10,h11,h12,h13,h14,h15] L) [18]),(cX 2 (λc _=>apC (-num) (qe c 0) #[c0,c1]) []),(cX 0 (λc _=>apC num (qe c 0) #[c0,c1]) []),(cO 30 (j9 [65+r0,65+r1] #[c0,c1]) [28,29,24]),(cC 10 (j0 false (c0.toNat:Int) r0) []),(cC 5 (j0 false (c1.toNat:Int) r1) []),(cX 70 (λc os=>jZ w.params r0 r1 c os) [38,3,4,5,6,7,8,9,10]),(cO 7 (zG w (fdY w.params) 0 r0) [53,38,3,4,5,6,7,8,9,10,18,15]),(cO 0 (zG w (fdY w.params) 1 r1) [53,38,3,4,5,6,7,8,9,10,18,15]),(cC 7 (zc h15 qP) []),(cC 0 (reachAt7 h15) []),(cC 3 (zc h15 qP) []),(cO 25 (yZ (15-r0)) [44,43,1]),(cX 41 (λc os=>jV true false r0 r1 0 n0 c os) [38,63,1,2]),(cX 0 (λc os=>qr false true r0 r1 0 n1 c os) [38,65,1,2]),(cO 1 qE [64,66]),(cX 13 (λc os=>qr true true r0 r1 0 n2 c os) [38,70,1,2]),(cO 1 qE [67,71]),(cX 7 (λc os=>yw w.params (fdY w.params) true c os) [77,75,72,76,8,20]),(cC 0 (wW num 1 rb) []),(cX 3 (λc os=>yc (-1) false c os) [72]),(cX 1 (λc os=>yc num rb c os) [20]),(cX 1 (λ_ _=>jH rb) []),(cO 1 (yx rb) [76,78]),(cX 1 (λ_ _=>jH rb) [])] (λa N t0 gN=>[(.bool (decide ((15:Int)-(15-r0)=r0)), .bool true),(.bool (decide ((15:Int)-r0≥2 ^ 63)), .bool false),(.bool (decide ((15:Int)-r0<0)), .bool false),(.bool (!((h15++qP).cps.toList==(h15++qP).cps.toList)), .bool false),(.bool (decide ((#[c0,c1]:Array UInt8).toList=(#[c0,c1]:Array UInt8).toList)), .bool true),(.bool (decide ((#[c0,c1]:Array UInt8).toList=(#[c0,c1]:Array UInt8).toList)), .bool true),(.bool (!(16*r0+r1==num)), .bool false),(.int (E9 num 16) (a.c 7 1+21), .int r1 (a.c 7 1+21)),(.int (F6 num ((16:Int) ^ F0 0)) (a.c 7 1+19), .int num (a.c 7 1+19)),(.bool (E4 num ((16:Int) ^ F0 0)), .bool false),(.bool (decide (num≥(16:Int) ^ F0 0)), .bool true),(.int (E9 r0 16) (a.c 7 1+11), .int r0 (a.c 7 1+11)),(.int (F6 num ((16:Int) ^ F0 1)) (a.c 7 1+9), .int r0 (a.c 7 1+9)),(.bool (E4 num ((16:Int) ^ F0 1)), .bool false),(.bool (decide (num≥(16:Int) ^ F0 1)), .bool true),(.int (E9 S1 3) (a.c 3 1+2), .int 0 (a.c 3 1+2)),(.int (E9 (106+S0) 256) (a.c 1 1+2), .int num (a.c 1 1+2))]) (λa N t0 gN=>adF [a.c 19 4,a.c 24 4] 0) (λa N t0 gN=>[(((qc (a.c 24) true false r0 r1 0 n0++qc (a.c 25) false true r0 r1 0 n1)++qc (a.c 27) true true r0 r1 0 n2).filter (jI (ladT L (nuT (a.c 5) L.length)))).isEmpty=rb,(∀v∈(ladT L (nuT (a.c 5) L.length)),∃i u,v=Value.int i u)∧(ladT L (nuT (a.c 5) L.length)).any (λv=>qD v==num)=rb,(∀v∈(qc (a.c 24) true false r0 r1 0 n0++qc (a.c 25) false true r0 r1 0 n1)++qc (a.c 27) true true r0 r1 0 n2,∃i u,v=Value.int i u)∧((qc (a.c 24) true false r0 r1 0 n0++qc (a.c 25) false true r0 r1 0 n1)++qc (a.c 27) true true r0 r1 0 n2).any (λv=>qD v == -1)=false,zQ true ((qc (a.c 24) true false r0 r1 0 n0++qc (a.c 25) false true r0 r1 0 n1)++qc (a.c 27) true true r0 r1 0 n2) (ladT L (nuT (a.c 5) L.length)),(qc (a.c 24) true false r0 r1 0 n0++qc (a.c 25) false true r0 r1 0 n1).length+(qc (a.c 27) true true r0 r1 0 n2).length≤1000,(qc (a.c 24) true false r0 r1 0 n0).length+(qc (a.c 25) false true r0 r1 0 n1).length≤1000,zf w (strsT [h0,h1,h2,h3,h4,h5,h6,h7,h8,h9,h10,h11,h12,h13,h14,h15] (nuT (a.c 4) 16)) (ladT [1,2,3,5,8,13,21] [a.c 3 1+5,a.c 3 1+7,a.c 3 1+16,a.c 3 1+25,a.c 3 1+34,a.c 3 1+43,a.c 3 1+52]) [.int r0 (a.c 9 3), .int r1 (a.c 10 3)] 1 r1 (a.c 10 3),zf w (strsT [h0,h1,h2,h3,h4,h5,h6,h7,h8,h9,h10,h11,h12,h13,h14,h15] (nuT (a.c 4) 16)) (ladT [1,2,3,5,8,13,21] [a.c 3 1+5,a.c 3 1+7,a.c 3 1+16,a.c 3 1+25,a.c 3 1+34,a.c 3 1+43,a.c 3 1+52]) [.int r0 (a.c 9 3), .int r1 (a.c 10 3)] 0 r0 (a.c 9 3),frL w.params (N+0) (λi=>adF [N+1,N+2,N+3,N+4,N+5,N+6,N+7] 0 i)])):=by
 refine ⟨?_,?_,?_⟩
 ·intro xs n E0 E1 S0 S1 num h0 h1 h2 h3 h4 h5 h6 h7 h8 h9 h10 h11 h12 h13 h14 h15 L rb n0 n1 n2 N t0 gN a x' y' z';kernel_rfl
 ·intro xs n E0 E1 S0 S1 num h0 h1 h2 h3 h4 h5 h6 h7 h8 h9 h10 h11 h12 h13 h14 h15 L rb n0 n1 n2 r1 c1 N t0 gN a x' y' z';kernel_rfl
 ·intro xs n E0 E1 S0 S1 num h0 h1 h2 h3 h4 h5 h6 h7 h8 h9 h10 h11 h12 h13 h14 h15 L rb n0 n1 n2 r1 c1 r0 c0 N t0 gN a x' y' z';kernel_rfl
theorem qcA:(∀(xs:List T1) (n:Nat) (E0 E1:List T1) (S0 S1 num:Int) (h0 h1 h2 h3 h4 h5 h6 h7 h8 h9 h10 h11 h12 h13 h14 h15:U2) (L:List Int) (rb:Bool) (n0 n1 n2 n3 n4:Nat),RunF w (jo xs n) 3 2148 [290,194,201] [] (hx 0x120155d53d040015d09d30050012305d854d02052d004fd251d0916e4ed4cd1416e4bd49d10140015f4030148d44d10130026f46d6f45d0103030143d41d110148110df1e3fd51f27d04d0093ed1633e80a33e880020f8804085f80f80a38e33390a2be990020f9903095f90f3bd0f22dd30a0fe330128d100892e29d047fe0f32d0bd0303cd7f3ad6f39d0f21fa2021f2221f13d4638d0111f36d00830d13e35d34d240ad6111110738e133d16d00205d0677e1fcc00bd1031d0022100604e074be080c3ae48606ece30d1112010cd7e1041002fd0131f1002cd1484e2ed00889e2ddaf0673e3123ae31528e30d28e303010030c13e33030028d110011111100220116f2ad07b0e129d7fff21f27d100d0811f26d0f25d1110121d1fd22d24d4f20d1f16d008011dd4f19d0031cd080be3020130f21501ad0112f18d0017d01041101b200ad009d1240014d05012d6f11d051c1ce060ae2f090ce2220f111f10d0007d0020006d0f3303005d0f01d1001004d000d) [(1, .int num 0),(0, .int 1 0),(12, .bool false),(1, .bool false),(6, .bool false),(8, .bool false),(1, .bool false),oF,oT] [(cO 2 (zV xs n 0 E0) [0,11]),(cX 1 (λ_ os=>jS E0 (qB (at0 os 0)) S0) [12]),(cO 1 (zV xs n 1 E1) [0,13]),(cX 1 (λ_ os=>jS E1 (qB (at0 os 0)) S1) [14]),(cX 44 (λc os=>hostsAt w.params (fdY w.params) S1 [1,3,7,17] [h0,h1,h2,h3,h4,h5,h6,h7,h8,h9,h10,h11,h12,h13,h14,h15] c os) [19,17,18,6,5,15]),(cO 0 (lostAt [h0,h1,h2,h3,h4,h5,h6,h7,h8,h9,h10,h11,h12,h13,h14,h15] L) [18]),(cX 2 (λc _=>apC (-num) (qe c 0) #[]) []),(cX 0 (λc _=>apC num (qe c 0) #[]) []),(cO 22 (j9 [] #[]) [28,29,24]),(cX 75 (λc os=>jZ w.params 0 0 c os) [38,3,4,5,6,7,8,9,10]),(cO 7 (zG w (fdY w.params) 0 0) [53,38,3,4,5,6,7,8,9,10,18,15]),(cO 0 (zG w (fdY w.params) 1 0) [53,38,3,4,5,6,7,8,9,10,18,15]),(cC 7 (zc h15 qP) []),(cC 0 (reachAt7 h15) []),(cC 3 (zc h15 qP) []),(cO 25 (yZ (15-0)) [44,43,1]),(cX 41 (λc os=>jV true false 0 0 0 n0 c os) [38,63,1,2]),(cX 0 (λc os=>qr false true 0 0 0 n1 c os) [38,65,1,2]),(cO 1 qE [64,66]),(cX 13 (λc os=>qr true true 0 0 (-1) n2 c os) [38,70,1,2]),(cO 1 qE [67,71]),(cX 3 (λc os=>qr true true 0 0 0 n3 c os) [38,73,1,2]),(cO 1 qE [72,74]),(cX 3 (λc os=>qr true true 0 0 1 n4 c os) [38,76,1,2]),(cO 1 qE [75,77]),(cX 7 (λc os=>yw w.params (fdY w.params) false c os) [83,81,78,82,8,20]),(cC 0 (wW num 2 rb) []),(cX 3 (λc os=>yc (-1) false c os) [78]),(cX 1 (λc os=>yc num rb c os) [20]),(cX 1 (λ_ _=>jH rb) []),(cO 1 (yx rb) [82,84]),(cX 1 (λ_ _=>jH rb) [])] (λa N t0 gN=>[(.bool (decide ((15:Int)-(15-0)=0)), .bool true),(.bool (decide ((15:Int)-0≥2 ^ 63)), .bool false),(.bool (decide ((15:Int)-0<0)), .bool false),(.bool (!((h15++qP).cps.toList==(h15++qP).cps.toList)), .bool false),(.bool (!(16*0+0==num)), .bool false),(.bool (decide (num≥(16:Int) ^ F0 0)), .bool false),(.bool (decide (num≥(16:Int) ^ F0 1)), .bool false),(.int (E9 S1 3) (a.c 3 1+2), .int 1 (a.c 3 1+2)),(.int (E9 (106+S0) 256) (a.c 1 1+2), .int num (a.c 1 1+2))]) (λa N t0 gN=>adF [a.c 17 4,a.c 22 4] 0) (λa N t0 gN=>[(((((qc (a.c 22) true false 0 0 0 n0++qc (a.c 23) false true 0 0 0 n1)++qc (a.c 25) true true 0 0 (-1) n2)++qc (a.c 27) true true 0 0 0 n3)++qc (a.c 29) true true 0 0 1 n4).filter (jI (ladT L (nuT (a.c 5) L.length)))).isEmpty=rb,(∀v∈(ladT L (nuT (a.c 5) L.length)),∃i u,v=Value.int i u)∧(ladT L (nuT (a.c 5) L.length)).any (λv=>qD v==num)=rb,(∀v∈(((qc (a.c 22) true false 0 0 0 n0++qc (a.c 23) false true 0 0 0 n1)++qc (a.c 25) true true 0 0 (-1) n2)++qc (a.c 27) true true 0 0 0 n3)++qc (a.c 29) true true 0 0 1 n4,∃i u,v=Value.int i u)∧((((qc (a.c 22) true false 0 0 0 n0++qc (a.c 23) false true 0 0 0 n1)++qc (a.c 25) true true 0 0 (-1) n2)++qc (a.c 27) true true 0 0 0 n3)++qc (a.c 29) true true 0 0 1 n4).any (λv=>qD v == -1)=false,zQ false ((((qc (a.c 22) true false 0 0 0 n0++qc (a.c 23) false true 0 0 0 n1)++qc (a.c 25) true true 0 0 (-1) n2)++qc (a.c 27) true true 0 0 0 n3)++qc (a.c 29) true true 0 0 1 n4) (ladT L (nuT (a.c 5) L.length)),(((qc (a.c 22) true false 0 0 0 n0++qc (a.c 23) false true 0 0 0 n1)++qc (a.c 25) true true 0 0 (-1) n2)++qc (a.c 27) true true 0 0 0 n3).length+(qc (a.c 29) true true 0 0 1 n4).length≤1000,((qc (a.c 22) true false 0 0 0 n0++qc (a.c 23) false true 0 0 0 n1)++qc (a.c 25) true true 0 0 (-1) n2).length+(qc (a.c 27) true true 0 0 0 n3).length≤1000,(qc (a.c 22) true false 0 0 0 n0++qc (a.c 23) false true 0 0 0 n1).length+(qc (a.c 25) true true 0 0 (-1) n2).length≤1000,(qc (a.c 22) true false 0 0 0 n0).length+(qc (a.c 23) false true 0 0 0 n1).length≤1000,zf w (strsT [h0,h1,h2,h3,h4,h5,h6,h7,h8,h9,h10,h11,h12,h13,h14,h15] (nuT (a.c 4) 16)) (ladT [1,3,7,17] [a.c 3 1+5,a.c 3 1+7,a.c 3 1+16,a.c 3 1+25]) [.int 0 (a.c 8 1+1), .int 0 (a.c 8 1+2)] 1 0 (a.c 8 1+2),zf w (strsT [h0,h1,h2,h3,h4,h5,h6,h7,h8,h9,h10,h11,h12,h13,h14,h15] (nuT (a.c 4) 16)) (ladT [1,3,7,17] [a.c 3 1+5,a.c 3 1+7,a.c 3 1+16,a.c 3 1+25]) [.int 0 (a.c 8 1+1), .int 0 (a.c 8 1+2)] 0 0 (a.c 8 1+1),frL w.params (N+0) (λi=>adF [N+1,N+2,N+3,N+4,N+5,N+6,N+7] 0 i)]))∧(∀(xs:List T1) (n:Nat) (E0 E1:List T1) (S0 S1 num:Int) (h0 h1 h2 h3 h4 h5 h6 h7 h8 h9 h10 h11 h12 h13 h14 h15:U2) (L:List Int) (rb:Bool) (n0 n1 n2 n3 n4:Nat) (r1:Int) (c1:UInt8),RunF w (jo xs n) 3 2222 [290,194,201] [] (hx 0x120155d53d040015d09d30050012305d80054d02052d004fd251d0916e4ed4cd1416e4bd49d10140015f4030148d44d10130026f46d6f45d0103030143d41d110148110df1e3fd51f27d04d0093ed1633e80a33e880020f8804085f80f80a38e33390a2be990020f9903095f90f3bd0f22dd30a0fe330128d100892e29d047fe0f32d0bd0303cd7f3ad6f39d0f21fa2021f2221f13d4638d0111f36d00830d13e35d34d240ad6111110738e133d16d00205d0677e1fcc00bd1031d0022100604e074be080c3ae48606ece30d1112010cd7e1041002fd0131f1002cd1484e2ed00889e2ddaf0673e3123ae31528e30d28e303010030c13e33030028d110011111100220116f2ad07c8e129d7fff21f27d180a11f26d0f25d1110141fd00424d0625e0f21d22cb022d4f20d1f16d008011dd4f40041cd0140f30f19d1113020130f21501ad0112f18d0017d01041101b200ad009d1240014d05012d6f11d051c1ce060ae2f090ce2220f111f10d0007d0020006d0f3303005d0f01d1001004d000d) [(1, .int num 0),(0, .int 1 0),(12, .bool false),(1, .bool true),(1, .bool false),(0, .int num 0),(0, .int r1 0),(7, .bool false),oT,oT,(6, .bool false),(1, .bool false),oF,oT] [(cO 2 (zV xs n 0 E0) [0,11]),(cX 1 (λ_ os=>jS E0 (qB (at0 os 0)) S0) [12]),(cO 1 (zV xs n 1 E1) [0,13]),(cX 1 (λ_ os=>jS E1 (qB (at0 os 0)) S1) [14]),(cX 44 (λc os=>hostsAt w.params (fdY w.params) S1 [1,3,7,17] [h0,h1,h2,h3,h4,h5,h6,h7,h8,h9,h10,h11,h12,h13,h14,h15] c os) [19,17,18,6,5,15]),(cO 0 (lostAt [h0,h1,h2,h3,h4,h5,h6,h7,h8,h9,h10,h11,h12,h13,h14,h15] L) [18]),(cX 2 (λc _=>apC (-num) (qe c 0) #[c1]) []),(cX 0 (λc _=>apC num (qe c 0) #[c1]) []),(cO 26 (j9 [65+r1] #[c1]) [28,29,24]),(cC 10 (j0 false (c1.toNat:Int) r1) []),(cX 70 (λc os=>jZ w.params 0 r1 c os) [38,3,4,5,6,7,8,9,10]),(cO 7 (zG w (fdY w.params) 0 0) [53,38,3,4,5,6,7,8,9,10,18,15]),(cO 0 (zG w (fdY w.params) 1 r1) [53,38,3,4,5,6,7,8,9,10,18,15]),(cC 7 (zc h15 qP) []),(cC 0 (reachAt7 h15) []),(cC 3 (zc h15 qP) []),(cO 25 (yZ (15-0)) [44,43,1]),(cX 41 (λc os=>jV true false 0 r1 0 n0 c os) [38,63,1,2]),(cX 0 (λc os=>qr false true 0 r1 0 n1 c os) [38,65,1,2]),(cO 1 qE [64,66]),(cX 13 (λc os=>qr true true 0 r1 (-1) n2 c os) [38,70,1,2]),(cO 1 qE [67,71]),(cX 3 (λc os=>qr true true 0 r1 0 n3 c os) [38,73,1,2]),(cO 1 qE [72,74]),(cX 3 (λc os=>qr true true 0 r1 1 n4 c os) [38,76,1,2]),(cO 1 qE [75,77]),(cX 7 (λc os=>yw w.params (fdY w.params) true c os) [83,81,78,82,8,20]),(cC 0 (wW num 2 rb) []),(cX 3 (λc os=>yc (-1) false c os) [78]),(cX 1 (λc os=>yc num rb c os) [20]),(cX 1 (λ_ _=>jH rb) []),(cO 1 (yx rb) [82,84]),(cX 1 (λ_ _=>jH rb) [])] (λa N t0 gN=>[(.bool (decide ((15:Int)-(15-0)=0)), .bool true),(.bool (decide ((15:Int)-0≥2 ^ 63)), .bool false),(.bool (decide ((15:Int)-0<0)), .bool false),(.bool (!((h15++qP).cps.toList==(h15++qP).cps.toList)), .bool false),(.bool (decide ((#[c1]:Array UInt8).toList=(#[c1]:Array UInt8).toList)), .bool true),(.bool (decide ((#[c1]:Array UInt8).toList=(#[c1]:Array UInt8).toList)), .bool true),(.bool (!(16*0+r1==num)), .bool false),(.int (E9 num 16) (a.c 7 1+14), .int r1 (a.c 7 1+14)),(.int (F6 num ((16:Int) ^ F0 0)) (a.c 7 1+12), .int num (a.c 7 1+12)),(.bool (E4 num ((16:Int) ^ F0 0)), .bool false),(.bool (decide (num≥(16:Int) ^ F0 0)), .bool true),(.bool (decide (num≥(16:Int) ^ F0 1)), .bool false),(.int (E9 S1 3) (a.c 3 1+2), .int 1 (a.c 3 1+2)),(.int (E9 (106+S0) 256) (a.c 1 1+2), .int num (a.c 1 1+2))]) (λa N t0 gN=>adF [a.c 18 4,a.c 23 4] 0) (λa N t0 gN=>[(((((qc (a.c 23) true false 0 r1 0 n0++qc (a.c 24) false true 0 r1 0 n1)++qc (a.c 26) true true 0 r1 (-1) n2)++qc (a.c 28) true true 0 r1 0 n3)++qc (a.c 30) true true 0 r1 1 n4).filter (jI (ladT L (nuT (a.c 5) L.length)))).isEmpty=rb,(∀v∈(ladT L (nuT (a.c 5) L.length)),∃i u,v=Value.int i u)∧(ladT L (nuT (a.c 5) L.length)).any (λv=>qD v==num)=rb,(∀v∈(((qc (a.c 23) true false 0 r1 0 n0++qc (a.c 24) false true 0 r1 0 n1)++qc (a.c 26) true true 0 r1 (-1) n2)++qc (a.c 28) true true 0 r1 0 n3)++qc (a.c 30) true true 0 r1 1 n4,∃i u,v=Value.int i u)∧((((qc (a.c 23) true false 0 r1 0 n0++qc (a.c 24) false true 0 r1 0 n1)++qc (a.c 26) true true 0 r1 (-1) n2)++qc (a.c 28) true true 0 r1 0 n3)++qc (a.c 30) true true 0 r1 1 n4).any (λv=>qD v == -1)=false,zQ true ((((qc (a.c 23) true false 0 r1 0 n0++qc (a.c 24) false true 0 r1 0 n1)++qc (a.c 26) true true 0 r1 (-1) n2)++qc (a.c 28) true true 0 r1 0 n3)++qc (a.c 30) true true 0 r1 1 n4) (ladT L (nuT (a.c 5) L.length)),(((qc (a.c 23) true false 0 r1 0 n0++qc (a.c 24) false true 0 r1 0 n1)++qc (a.c 26) true true 0 r1 (-1) n2)++qc (a.c 28) true true 0 r1 0 n3).length+(qc (a.c 30) true true 0 r1 1 n4).length≤1000,((qc (a.c 23) true false 0 r1 0 n0++qc (a.c 24) false true 0 r1 0 n1)++qc (a.c 26) true true 0 r1 (-1) n2).length+(qc (a.c 28) true true 0 r1 0 n3).length≤1000,(qc (a.c 23) true false 0 r1 0 n0++qc (a.c 24) false true 0 r1 0 n1).length+(qc (a.c 26) true true 0 r1 (-1) n2).length≤1000,(qc (a.c 23) true false 0 r1 0 n0).length+(qc (a.c 24) false true 0 r1 0 n1).length≤1000,zf w (strsT [h0,h1,h2,h3,h4,h5,h6,h7,h8,h9,h10,h11,h12,h13,h14,h15] (nuT (a.c 4) 16)) (ladT [1,3,7,17] [a.c 3 1+5,a.c 3 1+7,a.c 3 1+16,a.c 3 1+25]) [.int 0 (a.c 8 1+2), .int r1 (a.c 9 3)] 1 r1 (a.c 9 3),zf w (strsT [h0,h1,h2,h3,h4,h5,h6,h7,h8,h9,h10,h11,h12,h13,h14,h15] (nuT (a.c 4) 16)) (ladT [1,3,7,17] [a.c 3 1+5,a.c 3 1+7,a.c 3 1+16,a.c 3 1+25]) [.int 0 (a.c 8 1+2), .int r1 (a.c 9 3)] 0 0 (a.c 8 1+2),frL w.params (N+0) (λi=>adF [N+1,N+2,N+3,N+4,N+5,N+6,N+7] 0 i)]))∧(∀(xs:List T1) (n:Nat) (E0 E1:List T1) (S0 S1 num:Int) (h0 h1 h2 h3 h4 h5 h6 h7 h8 h9 h10 h11 h12 h13 h14 h15:U2) (L:List Int) (rb:Bool) (n0 n1 n2 n3 n4:Nat) (r1:Int) (c1:UInt8) (r0:Int) (c0:UInt8),RunF w (jo xs n) 3 2288 [290,194,201] [] (hx 0x120155d53d040015d09d30050012305d80054d02052d004fd251d0916e4ed4cd1416e4bd49d10140015f4030148d44d10130026f46d6f45d0103030143d41d110148110df1e3fd51f27d04d0093ed1633e80a33e880020f8804085f80f80a38e33390a2be990020f9903095f90f3bd0f22dd30a0fe330128d100892e29d047fe0f32d0bd0303cd7f3ad6f39d0f21fa2021f2221f13d4638d0111f36d00830d13e35d34d240ad6111110738e133d16d00205d0677e1fcc00bd1031d0022100604e074be080c3ae48606ece30d1112010cd7e1041002fd0131f1002cd1484e2ed00889e2ddaf0673e3123ae31528e30d28e303010030c13e33030028d110011111100220116f2ad07dee129d7fff21f27d180a11f26d0f25d1110141fd00424d0910e42243030625e0f21d22cb022d4f20d1f16d008011dd4f40041cd0a11e41114030140f30f19d111501ad0112f18d0017d01041101b200ad009d1240014d05012d6f11d051c1ce060ae2f090ce2220f111f10d0007d0020006d0f3303005d0f01d1001004d000d) [(1, .int num 0),(0, .int 1 0),(12, .bool true),(1, .bool false),(0, .int r0 0),(0, .int r0 0),(2, .bool true),(1, .bool false),(0, .int num 0),(0, .int r1 0),(7, .bool false),oT,oT,(6, .bool false),(1, .bool false),oF,oT] [(cO 2 (zV xs n 0 E0) [0,11]),(cX 1 (λ_ os=>jS E0 (qB (at0 os 0)) S0) [12]),(cO 1 (zV xs n 1 E1) [0,13]),(cX 1 (λ_ os=>jS E1 (qB (at0 os 0)) S1) [14]),(cX 44 (λc os=>hostsAt w.params (fdY w.params) S1 [1,3,7,17] [h0,h1,h2,h3,h4,h5,h6,h7,h8,h9,h10,h11,h12,h13,h14,h15] c os) [19,17,18,6,5,15]),(cO 0 (lostAt [h0,h1,h2,h3,h4,h5,h6,h7,h8,h9,h10,h11,h12,h13,h14,h15] L) [18]),(cX 2 (λc _=>apC (-num) (qe c 0) #[c0,c1]) []),(cX 0 (λc _=>apC num (qe c 0) #[c0,c1]) []),(cO 30 (j9 [65+r0,65+r1] #[c0,c1]) [28,29,24]),(cC 10 (j0 false (c0.toNat:Int) r0) []),(cC 5 (j0 false (c1.toNat:Int) r1) []),(cX 70 (λc os=>jZ w.params r0 r1 c os) [38,3,4,5,6,7,8,9,10]),(cO 7 (zG w (fdY w.params) 0 r0) [53,38,3,4,5,6,7,8,9,10,18,15]),(cO 0 (zG w (fdY w.params) 1 r1) [53,38,3,4,5,6,7,8,9,10,18,15]),(cC 7 (zc h15 qP) []),(cC 0 (reachAt7 h15) []),(cC 3 (zc h15 qP) []),(cO 25 (yZ (15-r0)) [44,43,1]),(cX 41 (λc os=>jV true false r0 r1 0 n0 c os) [38,63,1,2]),(cX 0 (λc os=>qr false true r0 r1 0 n1 c os) [38,65,1,2]),(cO 1 qE [64,66]),(cX 13 (λc os=>qr true true r0 r1 (-1) n2 c os) [38,70,1,2]),(cO 1 qE [67,71]),(cX 3 (λc os=>qr true true r0 r1 0 n3 c os) [38,73,1,2]),(cO 1 qE [72,74]),(cX 3 (λc os=>qr true true r0 r1 1 n4 c os) [38,76,1,2]),(cO 1 qE [75,77]),(cX 7 (λc os=>yw w.params (fdY w.params) true c os) [83,81,78,82,8,20]),(cC 0 (wW num 2 rb) []),(cX 3 (λc os=>yc (-1) false c os) [78]),(cX 1 (λc os=>yc num rb c os) [20]),(cX 1 (λ_ _=>jH rb) []),(cO 1 (yx rb) [82,84]),(cX 1 (λ_ _=>jH rb) [])] (λa N t0 gN=>[(.bool (decide ((15:Int)-(15-r0)=r0)), .bool true),(.bool (decide ((15:Int)-r0≥2 ^ 63)), .bool false),(.bool (decide ((15:Int)-r0<0)), .bool false),(.bool (!((h15++qP).cps.toList==(h15++qP).cps.toList)), .bool false),(.bool (decide ((#[c0,c1]:Array UInt8).toList=(#[c0,c1]:Array UInt8).toList)), .bool true),(.bool (decide ((#[c0,c1]:Array UInt8).toList=(#[c0,c1]:Array UInt8).toList)), .bool true),(.bool (!(16*r0+r1==num)), .bool false),(.int (E9 num 16) (a.c 7 1+21), .int r1 (a.c 7 1+21)),(.int (F6 num ((16:Int) ^ F0 0)) (a.c 7 1+19), .int num (a.c 7 1+19)),(.bool (E4 num ((16:Int) ^ F0 0)), .bool false),(.bool (decide (num≥(16:Int) ^ F0 0)), .bool true),(.int (E9 r0 16) (a.c 7 1+11), .int r0 (a.c 7 1+11)),(.int (F6 num ((16:Int) ^ F0 1)) (a.c 7 1+9), .int r0 (a.c 7 1+9)),(.bool (E4 num ((16:Int) ^ F0 1)), .bool false),(.bool (decide (num≥(16:Int) ^ F0 1)), .bool true),(.int (E9 S1 3) (a.c 3 1+2), .int 1 (a.c 3 1+2)),(.int (E9 (106+S0) 256) (a.c 1 1+2), .int num (a.c 1 1+2))]) (λa N t0 gN=>adF [a.c 19 4,a.c 24 4] 0) (λa N t0 gN=>[(((((qc (a.c 24) true false r0 r1 0 n0++qc (a.c 25) false true r0 r1 0 n1)++qc (a.c 27) true true r0 r1 (-1) n2)++qc (a.c 29) true true r0 r1 0 n3)++qc (a.c 31) true true r0 r1 1 n4).filter (jI (ladT L (nuT (a.c 5) L.length)))).isEmpty=rb,(∀v∈(ladT L (nuT (a.c 5) L.length)),∃i u,v=Value.int i u)∧(ladT L (nuT (a.c 5) L.length)).any (λv=>qD v==num)=rb,(∀v∈(((qc (a.c 24) true false r0 r1 0 n0++qc (a.c 25) false true r0 r1 0 n1)++qc (a.c 27) true true r0 r1 (-1) n2)++qc (a.c 29) true true r0 r1 0 n3)++qc (a.c 31) true true r0 r1 1 n4,∃i u,v=Value.int i u)∧((((qc (a.c 24) true false r0 r1 0 n0++qc (a.c 25) false true r0 r1 0 n1)++qc (a.c 27) true true r0 r1 (-1) n2)++qc (a.c 29) true true r0 r1 0 n3)++qc (a.c 31) true true r0 r1 1 n4).any (λv=>qD v == -1)=false,zQ true ((((qc (a.c 24) true false r0 r1 0 n0++qc (a.c 25) false true r0 r1 0 n1)++qc (a.c 27) true true r0 r1 (-1) n2)++qc (a.c 29) true true r0 r1 0 n3)++qc (a.c 31) true true r0 r1 1 n4) (ladT L (nuT (a.c 5) L.length)),(((qc (a.c 24) true false r0 r1 0 n0++qc (a.c 25) false true r0 r1 0 n1)++qc (a.c 27) true true r0 r1 (-1) n2)++qc (a.c 29) true true r0 r1 0 n3).length+(qc (a.c 31) true true r0 r1 1 n4).length≤1000,((qc (a.c 24) true false r0 r1 0 n0++qc (a.c 25) false true r0 r1 0 n1)++qc (a.c 27) true true r0 r1 (-1) n2).length+(qc (a.c 29) true true r0 r1 0 n3).length≤1000,(qc (a.c 24) true false r0 r1 0 n0++qc (a.c 25) false true r0 r1 0 n1).length+(qc (a.c 27) true true r0 r1 (-1) n2).length≤1000,(qc (a.c 24) true false r0 r1 0 n0).length+(qc (a.c 25) false true r0 r1 0 n1).length≤1000,zf w (strsT [h0,h1,h2,h3,h4,h5,h6,h7,h8,h9,h10,h11,h12,h13,h14,h15] (nuT (a.c 4) 16)) (ladT [1,3,7,17] [a.c 3 1+5,a.c 3 1+7,a.c 3 1+16,a.c 3 1+25]) [.int r0 (a.c 9 3), .int r1 (a.c 10 3)] 1 r1 (a.c 10 3),zf w (strsT [h0,h1,h2,h3,h4,h5,h6,h7,h8,h9,h10,h11,h12,h13,h14,h15] (nuT (a.c 4) 16)) (ladT [1,3,7,17] [a.c 3 1+5,a.c 3 1+7,a.c 3 1+16,a.c 3 1+25]) [.int r0 (a.c 9 3), .int r1 (a.c 10 3)] 0 r0 (a.c 9 3),frL w.params (N+0) (λi=>adF [N+1,N+2,N+3,N+4,N+5,N+6,N+7] 0 i)])):=by
 refine ⟨?_,?_,?_⟩
 ·intro xs n E0 E1 S0 S1 num h0 h1 h2 h3 h4 h5 h6 h7 h8 h9 h10 h11 h12 h13 h14 h15 L rb n0 n1 n2 n3 n4 N t0 gN a x' y' z';kernel_rfl
 ·intro xs n E0 E1 S0 S1 num h0 h1 h2 h3 h4 h5 h6 h7 h8 h9 h10 h11 h12 h13 h14 h15 L rb n0 n1 n2 n3 n4 r1 c1 N t0 gN a x' y' z';kernel_rfl
 ·intro xs n E0 E1 S0 S1 num h0 h1 h2 h3 h4 h5 h6 h7 h8 h9 h10 h11 h12 h13 h14 h15 L rb n0 n1 n2 n3 n4 r1 c1 r0 c0 N t0 gN a x' y' z';kernel_rfl
theorem qcz:(∀(xs:List T1) (n:Nat) (E0 E1:List T1) (S0 S1 num:Int) (h0 h1 h2 h3 h4 h5 h6 h7 h8 h9 h10 h11 h12 h13 h14 h15:U2) (L:List Int) (rb:Bool) (n0 n1 n2 n3 n4 n5 n6:Nat),RunF w (jo xs n) 3 2260 [290,194,201] [] (hx 0x12015bd59d040015d09d30050012305d85ad02058d0055d257d0916e54d52d1416e51d4fd1416e4ed4cd1416e4bd49d10140015f4030148d44d10130026f46d6f45d0103030143d41d110148110df1e3fd51f27d04d0093ed1633e80a33e880020f8804085f80f80a38e33390a2be990020f9903095f90f3bd0f22dd30a0fe330128d100892e29d047fe0f32d0bd0303cd7f3ad6f39d0f21fa2021f2221f13d4638d0111f36d00830d13e35d34d240ad6111110738e133d16d00205d0677e1fcc00bd1031d0022100604e074be080c3ae48606ece30d1112010cd7e1041002fd0131f1002cd1484e2ed00889e2ddaf0673e3123ae31528e30d28e303010030c13e33030028d110011111100220116f2ad07b0e129d7fff21f27d100d0811f26d0f25d1110121d1fd22d24d4f20d1f16d008011dd4f19d0031cd080be3020130f21501ad0112f18d0017d01041101b200ad009d1240014d05012d6f11d051c1ce060ae2f090ce2220f111f10d0007d0020006d0f3303005d0f01d1001004d000d) [(1, .int num 0),(0, .int 2 0),(12, .bool false),(1, .bool false),(6, .bool false),(8, .bool false),(1, .bool false),oF,oT] [(cO 2 (zV xs n 0 E0) [0,11]),(cX 1 (λ_ os=>jS E0 (qB (at0 os 0)) S0) [12]),(cO 1 (zV xs n 1 E1) [0,13]),(cX 1 (λ_ os=>jS E1 (qB (at0 os 0)) S1) [14]),(cX 44 (λc os=>hostsAt w.params (fdY w.params) S1 [1,4,13,43] [h0,h1,h2,h3,h4,h5,h6,h7,h8,h9,h10,h11,h12,h13,h14,h15] c os) [19,17,18,6,5,15]),(cO 0 (lostAt [h0,h1,h2,h3,h4,h5,h6,h7,h8,h9,h10,h11,h12,h13,h14,h15] L) [18]),(cX 2 (λc _=>apC (-num) (qe c 0) #[]) []),(cX 0 (λc _=>apC num (qe c 0) #[]) []),(cO 22 (j9 [] #[]) [28,29,24]),(cX 75 (λc os=>jZ w.params 0 0 c os) [38,3,4,5,6,7,8,9,10]),(cO 7 (zG w (fdY w.params) 0 0) [53,38,3,4,5,6,7,8,9,10,18,15]),(cO 0 (zG w (fdY w.params) 1 0) [53,38,3,4,5,6,7,8,9,10,18,15]),(cC 7 (zc h15 qP) []),(cC 0 (reachAt7 h15) []),(cC 3 (zc h15 qP) []),(cO 25 (yZ (15-0)) [44,43,1]),(cX 41 (λc os=>jV true false 0 0 0 n0 c os) [38,63,1,2]),(cX 0 (λc os=>qr false true 0 0 0 n1 c os) [38,65,1,2]),(cO 1 qE [64,66]),(cX 13 (λc os=>qr true true 0 0 (-2) n2 c os) [38,70,1,2]),(cO 1 qE [67,71]),(cX 3 (λc os=>qr true true 0 0 (-1) n3 c os) [38,73,1,2]),(cO 1 qE [72,74]),(cX 3 (λc os=>qr true true 0 0 0 n4 c os) [38,76,1,2]),(cO 1 qE [75,77]),(cX 3 (λc os=>qr true true 0 0 1 n5 c os) [38,79,1,2]),(cO 1 qE [78,80]),(cX 3 (λc os=>qr true true 0 0 2 n6 c os) [38,82,1,2]),(cO 1 qE [81,83]),(cX 7 (λc os=>yw w.params (fdY w.params) false c os) [89,87,84,88,8,20]),(cC 0 (wW num 3 rb) []),(cX 3 (λc os=>yc (-1) false c os) [84]),(cX 1 (λc os=>yc num rb c os) [20]),(cX 1 (λ_ _=>jH rb) []),(cO 1 (yx rb) [88,90]),(cX 1 (λ_ _=>jH rb) [])] (λa N t0 gN=>[(.bool (decide ((15:Int)-(15-0)=0)), .bool true),(.bool (decide ((15:Int)-0≥2 ^ 63)), .bool false),(.bool (decide ((15:Int)-0<0)), .bool false),(.bool (!((h15++qP).cps.toList==(h15++qP).cps.toList)), .bool false),(.bool (!(16*0+0==num)), .bool false),(.bool (decide (num≥(16:Int) ^ F0 0)), .bool false),(.bool (decide (num≥(16:Int) ^ F0 1)), .bool false),(.int (E9 S1 3) (a.c 3 1+2), .int 2 (a.c 3 1+2)),(.int (E9 (106+S0) 256) (a.c 1 1+2), .int num (a.c 1 1+2))]) (λa N t0 gN=>adF [a.c 17 4,a.c 22 4] 0) (λa N t0 gN=>[(((((((qc (a.c 22) true false 0 0 0 n0++qc (a.c 23) false true 0 0 0 n1)++qc (a.c 25) true true 0 0 (-2) n2)++qc (a.c 27) true true 0 0 (-1) n3)++qc (a.c 29) true true 0 0 0 n4)++qc (a.c 31) true true 0 0 1 n5)++qc (a.c 33) true true 0 0 2 n6).filter (jI (ladT L (nuT (a.c 5) L.length)))).isEmpty=rb,(∀v∈(ladT L (nuT (a.c 5) L.length)),∃i u,v=Value.int i u)∧(ladT L (nuT (a.c 5) L.length)).any (λv=>qD v==num)=rb,(∀v∈(((((qc (a.c 22) true false 0 0 0 n0++qc (a.c 23) false true 0 0 0 n1)++qc (a.c 25) true true 0 0 (-2) n2)++qc (a.c 27) true true 0 0 (-1) n3)++qc (a.c 29) true true 0 0 0 n4)++qc (a.c 31) true true 0 0 1 n5)++qc (a.c 33) true true 0 0 2 n6,∃i u,v=Value.int i u)∧((((((qc (a.c 22) true false 0 0 0 n0++qc (a.c 23) false true 0 0 0 n1)++qc (a.c 25) true true 0 0 (-2) n2)++qc (a.c 27) true true 0 0 (-1) n3)++qc (a.c 29) true true 0 0 0 n4)++qc (a.c 31) true true 0 0 1 n5)++qc (a.c 33) true true 0 0 2 n6).any (λv=>qD v == -1)=false,zQ false ((((((qc (a.c 22) true false 0 0 0 n0++qc (a.c 23) false true 0 0 0 n1)++qc (a.c 25) true true 0 0 (-2) n2)++qc (a.c 27) true true 0 0 (-1) n3)++qc (a.c 29) true true 0 0 0 n4)++qc (a.c 31) true true 0 0 1 n5)++qc (a.c 33) true true 0 0 2 n6) (ladT L (nuT (a.c 5) L.length)),(((((qc (a.c 22) true false 0 0 0 n0++qc (a.c 23) false true 0 0 0 n1)++qc (a.c 25) true true 0 0 (-2) n2)++qc (a.c 27) true true 0 0 (-1) n3)++qc (a.c 29) true true 0 0 0 n4)++qc (a.c 31) true true 0 0 1 n5).length+(qc (a.c 33) true true 0 0 2 n6).length≤1000,((((qc (a.c 22) true false 0 0 0 n0++qc (a.c 23) false true 0 0 0 n1)++qc (a.c 25) true true 0 0 (-2) n2)++qc (a.c 27) true true 0 0 (-1) n3)++qc (a.c 29) true true 0 0 0 n4).length+(qc (a.c 31) true true 0 0 1 n5).length≤1000,(((qc (a.c 22) true false 0 0 0 n0++qc (a.c 23) false true 0 0 0 n1)++qc (a.c 25) true true 0 0 (-2) n2)++qc (a.c 27) true true 0 0 (-1) n3).length+(qc (a.c 29) true true 0 0 0 n4).length≤1000,((qc (a.c 22) true false 0 0 0 n0++qc (a.c 23) false true 0 0 0 n1)++qc (a.c 25) true true 0 0 (-2) n2).length+(qc (a.c 27) true true 0 0 (-1) n3).length≤1000,(qc (a.c 22) true false 0 0 0 n0++qc (a.c 23) false true 0 0 0 n1).length+(qc (a.c 25) true true 0 0 (-2) n2).length≤1000,(qc (a.c 22) true false 0 0 0 n0).length+(qc (a.c 23) false true 0 0 0 n1).length≤1000,zf w (strsT [h0,h1,h2,h3,h4,h5,h6,h7,h8,h9,h10,h11,h12,h13,h14,h15] (nuT (a.c 4) 16)) (ladT [1,4,13,43] [a.c 3 1+5,a.c 3 1+7,a.c 3 1+16,a.c 3 1+25]) [.int 0 (a.c 8 1+1), .int 0 (a.c 8 1+2)] 1 0 (a.c 8 1+2),zf w (strsT [h0,h1,h2,h3,h4,h5,h6,h7,h8,h9,h10,h11,h12,h13,h14,h15] (nuT (a.c 4) 16)) (ladT [1,4,13,43] [a.c 3 1+5,a.c 3 1+7,a.c 3 1+16,a.c 3 1+25]) [.int 0 (a.c 8 1+1), .int 0 (a.c 8 1+2)] 0 0 (a.c 8 1+1),frL w.params (N+0) (λi=>adF [N+1,N+2,N+3,N+4,N+5,N+6,N+7] 0 i)]))∧(∀(xs:List T1) (n:Nat) (E0 E1:List T1) (S0 S1 num:Int) (h0 h1 h2 h3 h4 h5 h6 h7 h8 h9 h10 h11 h12 h13 h14 h15:U2) (L:List Int) (rb:Bool) (n0 n1 n2 n3 n4 n5 n6:Nat) (r1:Int) (c1:UInt8),RunF w (jo xs n) 3 2334 [290,194,201] [] (hx 0x12015bd59d040015d09d30050012305d8005ad02058d0055d257d0916e54d52d1416e51d4fd1416e4ed4cd1416e4bd49d10140015f4030148d44d10130026f46d6f45d0103030143d41d110148110df1e3fd51f27d04d0093ed1633e80a33e880020f8804085f80f80a38e33390a2be990020f9903095f90f3bd0f22dd30a0fe330128d100892e29d047fe0f32d0bd0303cd7f3ad6f39d0f21fa2021f2221f13d4638d0111f36d00830d13e35d34d240ad6111110738e133d16d00205d0677e1fcc00bd1031d0022100604e074be080c3ae48606ece30d1112010cd7e1041002fd0131f1002cd1484e2ed00889e2ddaf0673e3123ae31528e30d28e303010030c13e33030028d110011111100220116f2ad07c8e129d7fff21f27d180a11f26d0f25d1110141fd00424d0625e0f21d22cb022d4f20d1f16d008011dd4f40041cd0140f30f19d1113020130f21501ad0112f18d0017d01041101b200ad009d1240014d05012d6f11d051c1ce060ae2f090ce2220f111f10d0007d0020006d0f3303005d0f01d1001004d000d) [(1, .int num 0),(0, .int 2 0),(12, .bool false),(1, .bool true),(1, .bool false),(0, .int num 0),(0, .int r1 0),(7, .bool false),oT,oT,(6, .bool false),(1, .bool false),oF,oT] [(cO 2 (zV xs n 0 E0) [0,11]),(cX 1 (λ_ os=>jS E0 (qB (at0 os 0)) S0) [12]),(cO 1 (zV xs n 1 E1) [0,13]),(cX 1 (λ_ os=>jS E1 (qB (at0 os 0)) S1) [14]),(cX 44 (λc os=>hostsAt w.params (fdY w.params) S1 [1,4,13,43] [h0,h1,h2,h3,h4,h5,h6,h7,h8,h9,h10,h11,h12,h13,h14,h15] c os) [19,17,18,6,5,15]),(cO 0 (lostAt [h0,h1,h2,h3,h4,h5,h6,h7,h8,h9,h10,h11,h12,h13,h14,h15] L) [18]),(cX 2 (λc _=>apC (-num) (qe c 0) #[c1]) []),(cX 0 (λc _=>apC num (qe c 0) #[c1]) []),(cO 26 (j9 [65+r1] #[c1]) [28,29,24]),(cC 10 (j0 false (c1.toNat:Int) r1) []),(cX 70 (λc os=>jZ w.params 0 r1 c os) [38,3,4,5,6,7,8,9,10]),(cO 7 (zG w (fdY w.params) 0 0) [53,38,3,4,5,6,7,8,9,10,18,15]),(cO 0 (zG w (fdY w.params) 1 r1) [53,38,3,4,5,6,7,8,9,10,18,15]),(cC 7 (zc h15 qP) []),(cC 0 (reachAt7 h15) []),(cC 3 (zc h15 qP) []),(cO 25 (yZ (15-0)) [44,43,1]),(cX 41 (λc os=>jV true false 0 r1 0 n0 c os) [38,63,1,2]),(cX 0 (λc os=>qr false true 0 r1 0 n1 c os) [38,65,1,2]),(cO 1 qE [64,66]),(cX 13 (λc os=>qr true true 0 r1 (-2) n2 c os) [38,70,1,2]),(cO 1 qE [67,71]),(cX 3 (λc os=>qr true true 0 r1 (-1) n3 c os) [38,73,1,2]),(cO 1 qE [72,74]),(cX 3 (λc os=>qr true true 0 r1 0 n4 c os) [38,76,1,2]),(cO 1 qE [75,77]),(cX 3 (λc os=>qr true true 0 r1 1 n5 c os) [38,79,1,2]),(cO 1 qE [78,80]),(cX 3 (λc os=>qr true true 0 r1 2 n6 c os) [38,82,1,2]),(cO 1 qE [81,83]),(cX 7 (λc os=>yw w.params (fdY w.params) true c os) [89,87,84,88,8,20]),(cC 0 (wW num 3 rb) []),(cX 3 (λc os=>yc (-1) false c os) [84]),(cX 1 (λc os=>yc num rb c os) [20]),(cX 1 (λ_ _=>jH rb) []),(cO 1 (yx rb) [88,90]),(cX 1 (λ_ _=>jH rb) [])] (λa N t0 gN=>[(.bool (decide ((15:Int)-(15-0)=0)), .bool true),(.bool (decide ((15:Int)-0≥2 ^ 63)), .bool false),(.bool (decide ((15:Int)-0<0)), .bool false),(.bool (!((h15++qP).cps.toList==(h15++qP).cps.toList)), .bool false),(.bool (decide ((#[c1]:Array UInt8).toList=(#[c1]:Array UInt8).toList)), .bool true),(.bool (decide ((#[c1]:Array UInt8).toList=(#[c1]:Array UInt8).toList)), .bool true),(.bool (!(16*0+r1==num)), .bool false),(.int (E9 num 16) (a.c 7 1+14), .int r1 (a.c 7 1+14)),(.int (F6 num ((16:Int) ^ F0 0)) (a.c 7 1+12), .int num (a.c 7 1+12)),(.bool (E4 num ((16:Int) ^ F0 0)), .bool false),(.bool (decide (num≥(16:Int) ^ F0 0)), .bool true),(.bool (decide (num≥(16:Int) ^ F0 1)), .bool false),(.int (E9 S1 3) (a.c 3 1+2), .int 2 (a.c 3 1+2)),(.int (E9 (106+S0) 256) (a.c 1 1+2), .int num (a.c 1 1+2))]) (λa N t0 gN=>adF [a.c 18 4,a.c 23 4] 0) (λa N t0 gN=>[(((((((qc (a.c 23) true false 0 r1 0 n0++qc (a.c 24) false true 0 r1 0 n1)++qc (a.c 26) true true 0 r1 (-2) n2)++qc (a.c 28) true true 0 r1 (-1) n3)++qc (a.c 30) true true 0 r1 0 n4)++qc (a.c 32) true true 0 r1 1 n5)++qc (a.c 34) true true 0 r1 2 n6).filter (jI (ladT L (nuT (a.c 5) L.length)))).isEmpty=rb,(∀v∈(ladT L (nuT (a.c 5) L.length)),∃i u,v=Value.int i u)∧(ladT L (nuT (a.c 5) L.length)).any (λv=>qD v==num)=rb,(∀v∈(((((qc (a.c 23) true false 0 r1 0 n0++qc (a.c 24) false true 0 r1 0 n1)++qc (a.c 26) true true 0 r1 (-2) n2)++qc (a.c 28) true true 0 r1 (-1) n3)++qc (a.c 30) true true 0 r1 0 n4)++qc (a.c 32) true true 0 r1 1 n5)++qc (a.c 34) true true 0 r1 2 n6,∃i u,v=Value.int i u)∧((((((qc (a.c 23) true false 0 r1 0 n0++qc (a.c 24) false true 0 r1 0 n1)++qc (a.c 26) true true 0 r1 (-2) n2)++qc (a.c 28) true true 0 r1 (-1) n3)++qc (a.c 30) true true 0 r1 0 n4)++qc (a.c 32) true true 0 r1 1 n5)++qc (a.c 34) true true 0 r1 2 n6).any (λv=>qD v == -1)=false,zQ true ((((((qc (a.c 23) true false 0 r1 0 n0++qc (a.c 24) false true 0 r1 0 n1)++qc (a.c 26) true true 0 r1 (-2) n2)++qc (a.c 28) true true 0 r1 (-1) n3)++qc (a.c 30) true true 0 r1 0 n4)++qc (a.c 32) true true 0 r1 1 n5)++qc (a.c 34) true true 0 r1 2 n6) (ladT L (nuT (a.c 5) L.length)),(((((qc (a.c 23) true false 0 r1 0 n0++qc (a.c 24) false true 0 r1 0 n1)++qc (a.c 26) true true 0 r1 (-2) n2)++qc (a.c 28) true true 0 r1 (-1) n3)++qc (a.c 30) true true 0 r1 0 n4)++qc (a.c 32) true true 0 r1 1 n5).length+(qc (a.c 34) true true 0 r1 2 n6).length≤1000,((((qc (a.c 23) true false 0 r1 0 n0++qc (a.c 24) false true 0 r1 0 n1)++qc (a.c 26) true true 0 r1 (-2) n2)++qc (a.c 28) true true 0 r1 (-1) n3)++qc (a.c 30) true true 0 r1 0 n4).length+(qc (a.c 32) true true 0 r1 1 n5).length≤1000,(((qc (a.c 23) true false 0 r1 0 n0++qc (a.c 24) false true 0 r1 0 n1)++qc (a.c 26) true true 0 r1 (-2) n2)++qc (a.c 28) true true 0 r1 (-1) n3).length+(qc (a.c 30) true true 0 r1 0 n4).length≤1000,((qc (a.c 23) true false 0 r1 0 n0++qc (a.c 24) false true 0 r1 0 n1)++qc (a.c 26) true true 0 r1 (-2) n2).length+(qc (a.c 28) true true 0 r1 (-1) n3).length≤1000,(qc (a.c 23) true false 0 r1 0 n0++qc (a.c 24) false true 0 r1 0 n1).length+(qc (a.c 26) true true 0 r1 (-2) n2).length≤1000,(qc (a.c 23) true false 0 r1 0 n0).length+(qc (a.c 24) false true 0 r1 0 n1).length≤1000,zf w (strsT [h0,h1,h2,h3,h4,h5,h6,h7,h8,h9,h10,h11,h12,h13,h14,h15] (nuT (a.c 4) 16)) (ladT [1,4,13,43] [a.c 3 1+5,a.c 3 1+7,a.c 3 1+16,a.c 3 1+25]) [.int 0 (a.c 8 1+2), .int r1 (a.c 9 3)] 1 r1 (a.c 9 3),zf w (strsT [h0,h1,h2,h3,h4,h5,h6,h7,h8,h9,h10,h11,h12,h13,h14,h15] (nuT (a.c 4) 16)) (ladT [1,4,13,43] [a.c 3 1+5,a.c 3 1+7,a.c 3 1+16,a.c 3 1+25]) [.int 0 (a.c 8 1+2), .int r1 (a.c 9 3)] 0 0 (a.c 8 1+2),frL w.params (N+0) (λi=>adF [N+1,N+2,N+3,N+4,N+5,N+6,N+7] 0 i)]))∧(∀(xs:List T1) (n:Nat) (E0 E1:List T1) (S0 S1 num:Int) (h0 h1 h2 h3 h4 h5 h6 h7 h8 h9 h10 h11 h12 h13 h14 h15:U2) (L:List Int) (rb:Bool) (n0 n1 n2 n3 n4 n5 n6:Nat) (r1:Int) (c1:UInt8) (r0:Int) (c0:UInt8),RunF w (jo xs n) 3 2400 [290,194,201] [] (hx 0x12015bd59d040015d09d30050012305d8005ad02058d0055d257d0916e54d52d1416e51d4fd1416e4ed4cd1416e4bd49d10140015f4030148d44d10130026f46d6f45d0103030143d41d110148110df1e3fd51f27d04d0093ed1633e80a33e880020f8804085f80f80a38e33390a2be990020f9903095f90f3bd0f22dd30a0fe330128d100892e29d047fe0f32d0bd0303cd7f3ad6f39d0f21fa2021f2221f13d4638d0111f36d00830d13e35d34d240ad6111110738e133d16d00205d0677e1fcc00bd1031d0022100604e074be080c3ae48606ece30d1112010cd7e1041002fd0131f1002cd1484e2ed00889e2ddaf0673e3123ae31528e30d28e303010030c13e33030028d110011111100220116f2ad07dee129d7fff21f27d180a11f26d0f25d1110141fd00424d0910e42243030625e0f21d22cb022d4f20d1f16d008011dd4f40041cd0a11e41114030140f30f19d111501ad0112f18d0017d01041101b200ad009d1240014d05012d6f11d051c1ce060ae2f090ce2220f111f10d0007d0020006d0f3303005d0f01d1001004d000d) [(1, .int num 0),(0, .int 2 0),(12, .bool true),(1, .bool false),(0, .int r0 0),(0, .int r0 0),(2, .bool true),(1, .bool false),(0, .int num 0),(0, .int r1 0),(7, .bool false),oT,oT,(6, .bool false),(1, .bool false),oF,oT] [(cO 2 (zV xs n 0 E0) [0,11]),(cX 1 (λ_ os=>jS E0 (qB (at0 os 0)) S0) [12]),(cO 1 (zV xs n 1 E1) [0,13]),(cX 1 (λ_ os=>jS E1 (qB (at0 os 0)) S1) [14]),(cX 44 (λc os=>hostsAt w.params (fdY w.params) S1 [1,4,13,43] [h0,h1,h2,h3,h4,h5,h6,h7,h8,h9,h10,h11,h12,h13,h14,h15] c os) [19,17,18,6,5,15]),(cO 0 (lostAt [h0,h1,h2,h3,h4,h5,h6,h7,h8,h9,h10,h11,h12,h13,h14,h15] L) [18]),(cX 2 (λc _=>apC (-num) (qe c 0) #[c0,c1]) []),(cX 0 (λc _=>apC num (qe c 0) #[c0,c1]) []),(cO 30 (j9 [65+r0,65+r1] #[c0,c1]) [28,29,24]),(cC 10 (j0 false (c0.toNat:Int) r0) []),(cC 5 (j0 false (c1.toNat:Int) r1) []),(cX 70 (λc os=>jZ w.params r0 r1 c os) [38,3,4,5,6,7,8,9,10]),(cO 7 (zG w (fdY w.params) 0 r0) [53,38,3,4,5,6,7,8,9,10,18,15]),(cO 0 (zG w (fdY w.params) 1 r1) [53,38,3,4,5,6,7,8,9,10,18,15]),(cC 7 (zc h15 qP) []),(cC 0 (reachAt7 h15) []),(cC 3 (zc h15 qP) []),(cO 25 (yZ (15-r0)) [44,43,1]),(cX 41 (λc os=>jV true false r0 r1 0 n0 c os) [38,63,1,2]),(cX 0 (λc os=>qr false true r0 r1 0 n1 c os) [38,65,1,2]),(cO 1 qE [64,66]),(cX 13 (λc os=>qr true true r0 r1 (-2) n2 c os) [38,70,1,2]),(cO 1 qE [67,71]),(cX 3 (λc os=>qr true true r0 r1 (-1) n3 c os) [38,73,1,2]),(cO 1 qE [72,74]),(cX 3 (λc os=>qr true true r0 r1 0 n4 c os) [38,76,1,2]),(cO 1 qE [75,77]),(cX 3 (λc os=>qr true true r0 r1 1 n5 c os) [38,79,1,2]),(cO 1 qE [78,80]),(cX 3 (λc os=>qr true true r0 r1 2 n6 c os) [38,82,1,2]),(cO 1 qE [81,83]),(cX 7 (λc os=>yw w.params (fdY w.params) true c os) [89,87,84,88,8,20]),(cC 0 (wW num 3 rb) []),(cX 3 (λc os=>yc (-1) false c os) [84]),(cX 1 (λc os=>yc num rb c os) [20]),(cX 1 (λ_ _=>jH rb) []),(cO 1 (yx rb) [88,90]),(cX 1 (λ_ _=>jH rb) [])] (λa N t0 gN=>[(.bool (decide ((15:Int)-(15-r0)=r0)), .bool true),(.bool (decide ((15:Int)-r0≥2 ^ 63)), .bool false),(.bool (decide ((15:Int)-r0<0)), .bool false),(.bool (!((h15++qP).cps.toList==(h15++qP).cps.toList)), .bool false),(.bool (decide ((#[c0,c1]:Array UInt8).toList=(#[c0,c1]:Array UInt8).toList)), .bool true),(.bool (decide ((#[c0,c1]:Array UInt8).toList=(#[c0,c1]:Array UInt8).toList)), .bool true),(.bool (!(16*r0+r1==num)), .bool false),(.int (E9 num 16) (a.c 7 1+21), .int r1 (a.c 7 1+21)),(.int (F6 num ((16:Int) ^ F0 0)) (a.c 7 1+19), .int num (a.c 7 1+19)),(.bool (E4 num ((16:Int) ^ F0 0)), .bool false),(.bool (decide (num≥(16:Int) ^ F0 0)), .bool true),(.int (E9 r0 16) (a.c 7 1+11), .int r0 (a.c 7 1+11)),(.int (F6 num ((16:Int) ^ F0 1)) (a.c 7 1+9), .int r0 (a.c 7 1+9)),(.bool (E4 num ((16:Int) ^ F0 1)), .bool false),(.bool (decide (num≥(16:Int) ^ F0 1)), .bool true),(.int (E9 S1 3) (a.c 3 1+2), .int 2 (a.c 3 1+2)),(.int (E9 (106+S0) 256) (a.c 1 1+2), .int num (a.c 1 1+2))]) (λa N t0 gN=>adF [a.c 19 4,a.c 24 4] 0) (λa N t0 gN=>[(((((((qc (a.c 24) true false r0 r1 0 n0++qc (a.c 25) false true r0 r1 0 n1)++qc (a.c 27) true true r0 r1 (-2) n2)++qc (a.c 29) true true r0 r1 (-1) n3)++qc (a.c 31) true true r0 r1 0 n4)++qc (a.c 33) true true r0 r1 1 n5)++qc (a.c 35) true true r0 r1 2 n6).filter (jI (ladT L (nuT (a.c 5) L.length)))).isEmpty=rb,(∀v∈(ladT L (nuT (a.c 5) L.length)),∃i u,v=Value.int i u)∧(ladT L (nuT (a.c 5) L.length)).any (λv=>qD v==num)=rb,(∀v∈(((((qc (a.c 24) true false r0 r1 0 n0++qc (a.c 25) false true r0 r1 0 n1)++qc (a.c 27) true true r0 r1 (-2) n2)++qc (a.c 29) true true r0 r1 (-1) n3)++qc (a.c 31) true true r0 r1 0 n4)++qc (a.c 33) true true r0 r1 1 n5)++qc (a.c 35) true true r0 r1 2 n6,∃i u,v=Value.int i u)∧((((((qc (a.c 24) true false r0 r1 0 n0++qc (a.c 25) false true r0 r1 0 n1)++qc (a.c 27) true true r0 r1 (-2) n2)++qc (a.c 29) true true r0 r1 (-1) n3)++qc (a.c 31) true true r0 r1 0 n4)++qc (a.c 33) true true r0 r1 1 n5)++qc (a.c 35) true true r0 r1 2 n6).any (λv=>qD v == -1)=false,zQ true ((((((qc (a.c 24) true false r0 r1 0 n0++qc (a.c 25) false true r0 r1 0 n1)++qc (a.c 27) true true r0 r1 (-2) n2)++qc (a.c 29) true true r0 r1 (-1) n3)++qc (a.c 31) true true r0 r1 0 n4)++qc (a.c 33) true true r0 r1 1 n5)++qc (a.c 35) true true r0 r1 2 n6) (ladT L (nuT (a.c 5) L.length)),(((((qc (a.c 24) true false r0 r1 0 n0++qc (a.c 25) false true r0 r1 0 n1)++qc (a.c 27) true true r0 r1 (-2) n2)++qc (a.c 29) true true r0 r1 (-1) n3)++qc (a.c 31) true true r0 r1 0 n4)++qc (a.c 33) true true r0 r1 1 n5).length+(qc (a.c 35) true true r0 r1 2 n6).length≤1000,((((qc (a.c 24) true false r0 r1 0 n0++qc (a.c 25) false true r0 r1 0 n1)++qc (a.c 27) true true r0 r1 (-2) n2)++qc (a.c 29) true true r0 r1 (-1) n3)++qc (a.c 31) true true r0 r1 0 n4).length+(qc (a.c 33) true true r0 r1 1 n5).length≤1000,(((qc (a.c 24) true false r0 r1 0 n0++qc (a.c 25) false true r0 r1 0 n1)++qc (a.c 27) true true r0 r1 (-2) n2)++qc (a.c 29) true true r0 r1 (-1) n3).length+(qc (a.c 31) true true r0 r1 0 n4).length≤1000,((qc (a.c 24) true false r0 r1 0 n0++qc (a.c 25) false true r0 r1 0 n1)++qc (a.c 27) true true r0 r1 (-2) n2).length+(qc (a.c 29) true true r0 r1 (-1) n3).length≤1000,(qc (a.c 24) true false r0 r1 0 n0++qc (a.c 25) false true r0 r1 0 n1).length+(qc (a.c 27) true true r0 r1 (-2) n2).length≤1000,(qc (a.c 24) true false r0 r1 0 n0).length+(qc (a.c 25) false true r0 r1 0 n1).length≤1000,zf w (strsT [h0,h1,h2,h3,h4,h5,h6,h7,h8,h9,h10,h11,h12,h13,h14,h15] (nuT (a.c 4) 16)) (ladT [1,4,13,43] [a.c 3 1+5,a.c 3 1+7,a.c 3 1+16,a.c 3 1+25]) [.int r0 (a.c 9 3), .int r1 (a.c 10 3)] 1 r1 (a.c 10 3),zf w (strsT [h0,h1,h2,h3,h4,h5,h6,h7,h8,h9,h10,h11,h12,h13,h14,h15] (nuT (a.c 4) 16)) (ladT [1,4,13,43] [a.c 3 1+5,a.c 3 1+7,a.c 3 1+16,a.c 3 1+25]) [.int r0 (a.c 9 3), .int r1 (a.c 10 3)] 0 r0 (a.c 9 3),frL w.params (N+0) (λi=>adF [N+1,N+2,N+3,N+4,N+5,N+6,N+7] 0 i)])):=by
 refine ⟨?_,?_,?_⟩
 ·intro xs n E0 E1 S0 S1 num h0 h1 h2 h3 h4 h5 h6 h7 h8 h9 h10 h11 h12 h13 h14 h15 L rb n0 n1 n2 n3 n4 n5 n6 N t0 gN a x' y' z';kernel_rfl
 ·intro xs n E0 E1 S0 S1 num h0 h1 h2 h3 h4 h5 h6 h7 h8 h9 h10 h11 h12 h13 h14 h15 L rb n0 n1 n2 n3 n4 n5 n6 r1 c1 N t0 gN a x' y' z';kernel_rfl
 ·intro xs n E0 E1 S0 S1 num h0 h1 h2 h3 h4 h5 h6 h7 h8 h9 h10 h11 h12 h13 h14 h15 L rb n0 n1 n2 n3 n4 n5 n6 r1 c1 r0 c0 N t0 gN a x' y' z';kernel_rfl
theorem VC.le {a b:Nat} {C:Ctr} (h:VC w a C) (hab:a≤b:=by decide):VC w b C:=λA ads s R h0 hd hu=>h A ads s R h0 (by lia) (by lia)
theorem qdX {lev:Nat} {C:Ctr} {P:Prop} (h:VC w lev C) (hp:P) (h1:C.fside=some λ_=>P):VC w lev (qir C):=by
 intro A ads s R h0 hd hu hkt hok hnd hoff hob hfz hbare hfin
 refine h A ads s R h0 hd hu hkt hok hnd hoff hob (by unfold FrzOk;rw [h1];exact ⟨[],hp,λk hk=>nomatch hk⟩) hbare λν s' Q => ?_
 exact hfin ν s' ⟨Q.post,Q.news,Q.nodup,Q.ge,Q.keep,Q.le0,Q.sz,Q.tk,Q.gs,Q.le2,Q.gk,Q.bare,Q.dr,Q.os,Q.kp⟩
theorem qsO:RunOk w (jH true) 0 11 [] [] [] [] [] (λ_ _ _ _=>[]) (λ_ _ _ _=>[]):=λN t0 gN a x y z=>by kernel_rfl
theorem qsP:RunOk w (jH false) 0 11 [] [] [] [] [] (λ_ _ _ _=>[]) (λ_ _ _ _=>[]):=λN t0 gN a x y z=>by kernel_rfl
theorem ye {r:Bool}:VC w 1 (jH r):=by
 refine qu 0 λads hl hok => ?_
 obtain rfl:=E5 hl
 cases r
 ·exact (C2 qsP B0 (λ_ _ _ _ _ h=>nomatch h))
 ·exact (C2 qsO B0 (λ_ _ _ _ _ h=>nomatch h))
theorem wQ {hh:Int} {tk:U1} {h:Int} {t:U1} {n:Nat} (h0:0≤h) (h1:h≤50):VC w 1 (qhG hh tk h t n):=by
 refine qu 3 λads hl hok => ?_
 obtain ⟨a0,a1,a2,rfl⟩:=qh1 hl
 have e:a2=194:=hok _ (.head _)
 subst e
 exact (C2 (qsd hh tk h t n a0 a1) B0 (λ_ _ _ _=>qeQ (λ_ h=>nomatch h) h0 (by show h+2*((0:Nat):Int)≤100;lia)))
theorem ya {xs ys:List T1} {n:Nat} {a:Int} {os:List Obj} (hl:xs.length≤1000) (h:slicePick ⟨xs⟩ (some a) none (some 2)=⟨ys⟩):VC w 1 (zV xs n a ys os) :=
 qdX qeN ⟨hl, .int _ _, .none, .int _ _,by decide,h⟩ rfl
theorem vY:∀(l:List Int) (vs:List T1),(valsAt l vs).length=l.length
 | [],_=>rfl
 | i::l,[]=>congrArg G6 (vY l [])
 | i::l,v::vs=>congrArg G6 (vY l vs)
theorem vX {lo hi:Int}:∀(l:List Int) (vs:List T1),(∀i∈l,lo≤i∧i<hi)→∀v∈valsAt l vs,∃a t,v = .int a t∧lo≤a∧a<hi
 | [],_,_,v,h=>nomatch h
 | i::l,[],h,v,hv=>by
  rcases E2.mp hv with rfl | hv
  ·exact ⟨_,_,rfl,h i (.head _)⟩
  ·exact vX l [] (λj hj=>h j (.tail _ hj)) v hv
 | i::l,u::vs,h,v,hv=>by
  rcases E2.mp hv with rfl | hv
  ·exact ⟨_,_,rfl,h i (.head _)⟩
  ·exact vX l vs (λj hj=>h j (.tail _ hj)) v hv
theorem vW:∀(l:List Int) (vs:List T1),octL (valsAt l vs)=l.map λi=>i.toNat.toUInt8
 | [],_=>rfl
 | i::l,[]=>congrArg (i.toNat.toUInt8 :: ·) (vW l [])
 | i::l,u::vs=>congrArg (i.toNat.toUInt8 :: ·) (vW l vs)
theorem yz {l:List Int} {r:Array UInt8} {os:List Obj} (h:∀i∈l,0≤i∧i<256) (hl:l.length≤1000) (hr:(l.map λi=>i.toNat.toUInt8)=r.toList):VC w 1 (j9 l r os) :=
 qfV (vX l _ h) (by rw [vY];exact hl) (by rw [vW];exact hr)
theorem qne:∀d:_root_.Fin 16,((zn d.val).toNat:Int)=65+d.val∧((65+(d.val:Int)).toNat.toUInt8)=zn d.val:=by decide +kernel
theorem qaR {r:Int} (h0:0≤r) (h1:r≤15):((zn r.toNat).toNat:Int)=65+r∧((65+r).toNat.toUInt8)=zn r.toNat:=by
 obtain ⟨d,rfl⟩:=J5 h0
 have:=qne ⟨d,by lia⟩
 exact this
theorem qc8:∀(is:List Int) (ts:List U1),ts.length=is.length→(yL is ts).map qD=is
 | [],_,_=>rfl
 | i::is,t::ts,h=>congrArg (i :: ·) (qc8 is ts (G6.inj h))
theorem qcb:∀(is:List Int) (ts:List U1),qH (yL is ts)
 | [],_,v,h=>nomatch h
 | i::is,[],v,h=>nomatch h
 | i::is,t::ts,v,h=>by
  rcases E2.mp h with rfl | h
  ·exact ⟨_,_,rfl⟩
  ·exact qcb is ts v h
theorem uo:∀(is:List Int) (ts:List U1),ts.length=is.length→(ladT is ts).map qD=is
 | [],_,_=>rfl
 | i::is,t::ts,h=>congrArg (i :: ·) (uo is ts (G6.inj h))
theorem vv:∀(is:List Int) (ts:List U1),qH (ladT is ts)
 | [],_,v,h=>nomatch h
 | i::is,[],v,h=>nomatch h
 | i::is,t::ts,v,h=>by
  rcases E2.mp h with rfl | h
  ·exact ⟨_,_,rfl⟩
  ·exact vv is ts v h
theorem vy {ν:Nat→Nat} {b0 b1:Bool} {r0 r1 lead:Int} {n:Nat}:(qc ν b0 b1 r0 r1 lead n).map qD=wA b0 b1 r0 r1 lead n :=
 qc8 _ _ (by unfold wA;rw [wC];simp [nuL])
theorem zd {ν:Nat→Nat} {b0 b1:Bool} {r0 r1 lead:Int} {n:Nat}:qH (qc ν b0 b1 r0 r1 lead n):=qcb _ _
theorem qjV {ν:Nat→Nat} {b0 b1:Bool} {r0 r1 lead:Int} {n:Nat}:(qc ν b0 b1 r0 r1 lead n).length=n:=by
 have:=congrArg List.length (vy (ν:=ν) (b0:=b0) (b1:=b1) (r0:=r0) (r1:=r1) (lead:=lead) (n:=n))
 rw [G3] at this
 rw [this]
 exact wC _ _ _ _ _
theorem qH.append {xs ys:List T1} (h:qH xs) (h':qH ys):qH (xs++ys):=λv hv=>(I1.mp hv).elim (h v) (h' v)
theorem any_map (xs:List T1) (x:Int):xs.any (λv=>qD v==x)=(xs.map qD).any (· == x):=by rw [List.any_map];rfl
theorem qfQ (xs ls:List T1):(xs.filter (jI ls)).isEmpty = !(xs.map qD).any λp=>(ls.map qD).any (· == p):=by
 induction xs with
 | nil=>rfl
 | cons x xs ih =>
  have e:jI ls x=(ls.map qD).any (· == qD x):=any_map ls (qD x)
  rw [K8,O2,N0,←e]
  cases jI ls x
  ·rw [if_neg F7,Q4];exact ih
  ·rfl
noncomputable def qz (r0 r1 lead:Int):Nat:=(min (r0-max lead 0) (r1-max (-lead) 0)).toNat
noncomputable def wT (r0 r1 lead:Int):List Int:=wA true true r0 r1 lead (qz r0 r1 lead)
noncomputable def yf (wd:Nat) (r0 r1:Int):List Int:=match wd with
 | 1=>(wA true false r0 r1 0 r0.toNat++wA false true r0 r1 0 r1.toNat)++wT r0 r1 0
 | 2=>(((wA true false r0 r1 0 r0.toNat++wA false true r0 r1 0 r1.toNat)++wT r0 r1 (-1))++wT r0 r1 0)++wT r0 r1 1
 | _=>(((((wA true false r0 r1 0 r0.toNat++wA false true r0 r1 0 r1.toNat)++wT r0 r1 (-2))++wT r0 r1 (-1))++wT r0 r1 0)++wT r0 r1 1)++wT r0 r1 2
theorem y6 {r0 r1:Int} (h0:0≤r0) (h1:r0≤15) (g0:0≤r1) (g1:r1≤15):jD true false r0 r1 0 r0.toNat:=by
 refine ⟨rfl,h0,h1,g0,g1,by decide,by decide,by lia,λh => .inl ?_,λh=>⟨?_,?_, .inl ?_⟩⟩ <;> (simp only [qb,mx,stI];first | lia | (split <;> lia))
theorem y7 {r0 r1:Int} (h0:0≤r0) (h1:r0≤15) (g0:0≤r1) (g1:r1≤15):jD false true r0 r1 0 r1.toNat:=by
 refine ⟨rfl,h0,h1,g0,g1,by decide,by decide,by lia,λh => .inr ?_,λh=>⟨?_,?_, .inr ?_⟩⟩ <;> (simp only [qb,mx,stI];first | lia | (split <;> lia))
end
section
variable {w:T3}
theorem qmq (a:Int):mx a=max a 0:=by
 unfold mx
 split <;> rename_i h
 ·have:=of_decide_eq_true h;lia
 ·have:=of_decide_eq_false h;lia
theorem qr7 (a b:Int):((min a b).toNat=0→a<1∨b<1)∧(0<(min a b).toNat→((min a b).toNat:Int)≤a∧((min a b).toNat:Int)≤b∧(a-((min a b).toNat:Int)<1∨b-((min a b).toNat:Int)<1)):=by
 rcases Int.le_total a b with h | h
 ·rw [Int.min_eq_left h];lia
 ·rw [Int.min_eq_right h];lia
theorem qg {r0 r1 lead:Int} (h1:r0≤15):qz r0 r1 lead≤15 :=
 Int.toNat_le.2 (K5 (Int.min_le_left _ _) (K5 (Int.sub_le_self _ (Int.le_max_right _ _)) h1))
theorem qdI (r a:Int):15-qb r a=r-max a 0:=by
 show 15-(15-r+mx a)=_
 rw [qmq];generalize max a 0=m;lia
theorem za {r0 r1 lead:Int} (h0:0≤r0) (h1:r0≤15) (g0:0≤r1) (g1:r1≤15) (l0 : -2≤lead) (l1:lead≤2):jD true true r0 r1 lead (qz r0 r1 lead):=by
 have N:=qr7 (r0-max lead 0) (r1-max (-lead) 0)
 refine ⟨rfl,h0,h1,g0,g1,l0,l1,qg h1,?_,?_⟩
 ·rw [qdI,qdI];exact N.1
 ·rw [qdI,qdI];show _→_*(1:Int)≤_∧_*(1:Int)≤_∧(_-_*(1:Int)<_∨_-_*(1:Int)<_)
  rw [Int.mul_one];exact N.2
structure wt (xs E0 E1:List T1) (S0 S1 num:Int):Prop where
 le:xs.length≤63
 e0:slicePick ⟨xs⟩ (some 0) none (some 2)=⟨E0⟩
 e1:slicePick ⟨xs⟩ (some 1) none (some 2)=⟨E1⟩
 i0:qH E0
 i1:qH E1
 s0:sumI E0=S0
 s1:sumI E1=S1
 num:E9 (106+S0) 256=num
structure z9 (w:T3) (lad:List Int) (hs:List U2) (h15:U2) (L:List Int) (S1:Int):Prop where
 hosts:∀c os,VC w 2 (hostsAt w.params (fdY w.params) S1 lad hs c os)
 lost:∀os,VC w 2 (lostAt hs L os)
 reach:∀c,VC w 1 (reachAt7 h15 c)
 add:(h15++qP).length≤1000
 rooms:∀(r:Int),0≤r→r≤15→∀ts:List U1,ts.length=16→∀us:List U1,us.length=lad.length→∃name tn ss,RoomOk w (strsT hs ts) (ladT lad us) r name tn ss
structure qZ (wd:Nat) (L:List Int) (r0 r1 num:Int) (rb ne:Bool):Prop where
 h0:0≤r0
 h1:r0≤15
 g0:0≤r1
 g1:r1≤15
 d:16*r0+r1=num
 q0:F6 num 16=r0
 q1:E9 num 16=r1
 q2:E9 r0 16=r0
 lost:L.any (λi=>i==num)=rb
 found:((yf wd r0 r1).any λp=>L.any (· == p)) = !rb
 no1:(yf wd r0 r1).any (· == -1)=false
 len:(yf wd r0 r1).length≤1000
 ne:(yf wd r0 r1).isEmpty = !ne
 due:(zC wd).any (λp=>E3 p.1==min r0 r1&&E3 p.2==max r0 r1)=rb
theorem qf {x:T1×T1} {l:List (T1×T1)} (h:x.1=x.2) (t:∀p∈l,p.1=p.2):∀p∈x::l,p.1=p.2:=λp hp=>by
 rcases E2.mp hp with rfl | hp
 ·exact h
 ·exact t p hp
theorem vV:∀p∈([]:List (T1×T1)),p.1=p.2:=λ_ h=>nomatch h
theorem qi {P:Prop} {l:List Prop} (h:P) (t:∀p∈l,p):∀p∈P::l,p:=λp hp=>by
 rcases E2.mp hp with rfl | hp
 ·exact h
 ·exact t p hp
theorem uf:∀p∈([]:List Prop),p:=λ_ h=>nomatch h
theorem qlU {r:Int} (h0:0≤r) (h1:r≤15):ze false (65+r) 0 16=r:=by
 unfold ze
 rw [show zS false (65+r)=r from by show 65+r-65=r;lia]
 repeat' split <;> lia
theorem qhd:(16:Int) ^ F0 1=16:=by decide
theorem qhe:(16:Int) ^ F0 0=1:=by decide
theorem qhC (r0 r1:Int):min r0 r1=match decide (r1<r0) with | true=>r1 | false=>r0:=by
 cases h:decide (r1<r0)
 ·have:=of_decide_eq_false h;show min r0 r1=r0;lia
 ·have:=of_decide_eq_true h;show min r0 r1=r1;lia
theorem qhD (r0 r1:Int):max r0 r1=match decide (r1>r0) with | true=>r1 | false=>r0:=by
 cases h:decide (r1>r0)
 ·have:=of_decide_eq_false h;show max r0 r1=r0;lia
 ·have:=of_decide_eq_true h;show max r0 r1=r1;lia
theorem qia {num:Int} {tn tw:U1} {r0 r1:Int} {r:Bool} (h0:F6 num 16=r0) (h1:E9 num 16=r1) (hr:(zC 1).any (λp=>E3 p.1==min r0 r1&&E3 p.2==max r0 r1)=r):VC w 3 (wr num tn 1 tw r) :=
 qsy rfl rfl h0 h1 (by have hq:=qhC r0 r1;split <;> simp_all) (by have hq:=qhD r0 r1;split <;> simp_all) hr
theorem qh9 {num:Int} {tn tw:U1} {r0 r1:Int} {r:Bool} (h0:F6 num 16=r0) (h1:E9 num 16=r1) (hr:(zC 2).any (λp=>E3 p.1==min r0 r1&&E3 p.2==max r0 r1)=r):VC w 3 (wr num tn 2 tw r) :=
 qsx rfl rfl h0 h1 (by have hq:=qhC r0 r1;split <;> simp_all) (by have hq:=qhD r0 r1;split <;> simp_all) hr
theorem qh8 {num:Int} {tn tw:U1} {r0 r1:Int} {r:Bool} (h0:F6 num 16=r0) (h1:E9 num 16=r1) (hr:(zC 3).any (λp=>E3 p.1==min r0 r1&&E3 p.2==max r0 r1)=r):VC w 3 (wr num tn 3 tw r) :=
 qsw rfl rfl h0 h1 (by have hq:=qhC r0 r1;split <;> simp_all) (by have hq:=qhD r0 r1;split <;> simp_all) hr
section
variable {wd:Nat} {L:List Int} {r0 r1 num:Int} {rb ne:Bool} {T:List T1} {ts:List U1}
theorem qZ.foundS (P:qZ wd L r0 r1 num rb ne) (hT:T.map qD=yf wd r0 r1) (iT:qH T):zQ ne T (ladT L ts) :=
 ⟨iT,vv _ _,by rw [←G3 (f:=qD),hT];exact P.len,by rw [←P.ne,←hT,List.isEmpty_map]⟩
theorem qZ.in1 (P:qZ wd L r0 r1 num rb ne) (hT:T.map qD=yf wd r0 r1) (iT:qH T):(∀v∈T,∃i u,v=Value.int i u)∧T.any (λv=>qD v == -1)=false :=
 ⟨iT,by rw [any_map,hT];exact P.no1⟩
theorem qZ.in2 (P:qZ wd L r0 r1 num rb ne) (hl:ts.length=L.length):(∀v∈ladT L ts,∃i u,v=Value.int i u)∧(ladT L ts).any (λv=>qD v==num)=rb :=
 ⟨vv _ _,by rw [any_map,uo _ _ hl];exact P.lost⟩
theorem qZ.nil (P:qZ wd L r0 r1 num rb ne) (hT:T.map qD=yf wd r0 r1) (hl:ts.length=L.length):(T.filter (jI (ladT L ts))).isEmpty=rb:=by
 rw [qfQ,hT,uo _ _ hl,P.found,Bool.not_not]
theorem qZ.hn (P:qZ wd L r0 r1 num rb ne):num.natAbs<256:=by
 obtain ⟨a,b,c,d,e⟩:=P
 lia
theorem qZ.oct0 (P:qZ wd L 0 0 num rb ne):uj num.natAbs = #[]:=by
 have e:=P.d
 rw [show num.natAbs=0 by lia];rfl
theorem qZ.oct1 (P:qZ wd L 0 r1 num rb ne) (s:1≤r1):uj num.natAbs = #[zn r1.toNat]:=by
 obtain ⟨_,_,_,d,e⟩:=P
 unfold uj
 rw [show num.natAbs=r1.toNat by lia,if_neg (by lia),if_pos (by lia)]
theorem qZ.oct2 (P:qZ wd L r0 r1 num rb ne) (s:1≤r0):uj num.natAbs = #[zn r0.toNat,zn r1.toNat]:=by
 obtain ⟨a,b,c,d,e⟩:=P
 unfold uj
 rw [if_neg (by lia),if_neg (by lia),show num.natAbs/16=r0.toNat by lia,show num.natAbs%16=r1.toNat by lia]
theorem qZ.lt16 (P:qZ wd L 0 r1 num rb ne):num<16:=by
 obtain ⟨_,_,_,d,e⟩:=P
 lia
theorem qZ.ge16 (P:qZ wd L r0 r1 num rb ne) (s:1≤r0):16≤num:=by
 obtain ⟨_,_,c,_,e⟩:=P
 lia
theorem qZ.ge1 (P:qZ wd L 0 r1 num rb ne) (s:1≤r1):1≤num:=by
 have:=P.d
 lia
theorem qZ.lt1 (P:qZ wd L 0 0 num rb ne):num<1:=by
 have:=P.d
 lia
theorem wP {r:Int} (h:0≤r):(15:Int)-r≤50:=by lia
theorem um {r:Int} (h:r≤15):decide ((15:Int)-r<0)=false:=decide_eq_false (by lia)
theorem uu {r:Int} (h:0≤r):decide ((15:Int)-r≥2 ^ 63)=false:=decide_eq_false (by lia)
theorem uA {r:Int}:decide ((15:Int)-(15-r)=r)=true:=decide_eq_true (by lia)
theorem qcG {n:Int} (h:n<16):decide (n≥(16:Int) ^ F0 1)=false:=decide_eq_false (by rw [qhd];exact Int.not_le.mpr h)
theorem qli {n:Int} (h:16≤n):decide (n≥(16:Int) ^ F0 1)=true:=decide_eq_true (by rw [qhd];exact h)
theorem qlj {n:Int} (h:n<1):decide (n≥(16:Int) ^ F0 0)=false:=decide_eq_false (by rw [qhe];exact Int.not_le.mpr h)
theorem qcH {n:Int} (h:1≤n):decide (n≥(16:Int) ^ F0 0)=true:=decide_eq_true (by rw [qhe];exact h)
theorem py1 {n:Int}:E4 n ((16:Int) ^ F0 1)=false:=by rw [qhd];exact PyProof.noPylong_small (by decide)
theorem py0 {n:Int}:E4 n ((16:Int) ^ F0 0)=false:=by rw [qhe];exact PyProof.noPylong_small (by decide)
theorem qcU {n:Int}:F6 n ((16:Int) ^ F0 0)=n:=by rw [qhe];exact Int.fdiv_one _
theorem qlL {n r:Int} (h:F6 n 16=r):F6 n ((16:Int) ^ F0 1)=r:=by rw [qhd];exact h
theorem uH {n m:Int} (h:n=m):(!(n==m))=false:=by rw [h,beq_self_eq_true];rfl
theorem uG {l:List Nat}:(!(l==l))=false:=by rw [beq_self_eq_true];rfl
theorem bl0:∀i∈([]:List Int),0≤i∧i<256:=λ_ h=>nomatch h
theorem ln0:([]:List Int).length≤1000:=I7 _
theorem ln1 {a:Int}:[a].length≤1000:=(show 1≤1000 by decide)
theorem ln2 {a b:Int}:[a,b].length≤1000:=(show 2≤1000 by decide)
theorem bl1 {r1:Int} (g0:0≤r1) (g1:r1≤15):∀i∈([65+r1]:List Int),0≤i∧i<256:=by
 intro i hi
 rw [M5.mp hi]
 lia
theorem bl2 {r0 r1:Int} (h0:0≤r0) (h1:r0≤15) (g0:0≤r1) (g1:r1≤15):∀i∈([65+r0,65+r1]:List Int),0≤i∧i<256:=λi hi=>by
 rcases E2.mp hi with rfl | hi
 ·lia
 ·exact bl1 g0 g1 i hi
theorem be1 {r1:Int} (g0:0≤r1) (g1:r1≤15):(([65+r1]:List Int).map λi=>i.toNat.toUInt8)=(#[zn (F0 r1)]:Array UInt8).toList:=congrArg (λx=>[x]) (qaR g0 g1).2
theorem be2 {r0 r1:Int} (h0:0≤r0) (h1:r0≤15) (g0:0≤r1) (g1:r1≤15):(([65+r0,65+r1]:List Int).map λi=>i.toNat.toUInt8)=(#[zn (F0 r0),zn (F0 r1)]:Array UInt8).toList:=by
 show [(65+r0).toNat.toUInt8,(65+r1).toNat.toUInt8]=[zn r0.toNat,zn r1.toNat]
 rw [(qaR h0 h1).2,(qaR g0 g1).2]
theorem wX {r:Int} (h0:0≤r) (h1:r≤15):ze false ((zn r.toNat).toNat:Int) 0 16=r:=by rw [(qaR h0 h1).1];exact qlU h0 h1
theorem wS {r:Int} (h0:0≤r) (h1:r≤15):15-qb r 0-((F0 r:Nat):Int)*stI true=0:=by simp only [qb,qmq,stI];lia
theorem qk {r:Int} (h1:r≤15):r.toNat≤15:=by lia
theorem gl {ν:Nat→Nat} {b0 b1:Bool} {r0 r1 lead:Int} {n:Nat} (h:n≤15):(qc ν b0 b1 r0 r1 lead n).length≤15:=by rw [qjV];exact h
theorem apl {a b:List T1} {x y:Nat} (ha:a.length≤x) (hb:b.length≤y):(a++b).length≤x+y:=by rw [G1];exact F1 ha hb
theorem qw {ν:Nat→Nat}:∀{n:Nat},(nuT ν n).length=n:=by intro n;simp [nuT]
theorem z9.adds {lad:List Int} {hs:List U2} {h15:U2} {S1:Int} (H:z9 w lad hs h15 L S1):(h15++qP).length≤sizeLine:=E7 H.add (by decide)
theorem jw {ν0 ν1 ν2:Nat→Nat}:((qc ν0 true false r0 r1 0 r0.toNat++qc ν1 false true r0 r1 0 r1.toNat)++qc ν2 true true r0 r1 0 (qz r0 r1 0)).map qD=yf 1 r0 r1:=by simp only [L2,vy];rfl
theorem yv {ν0 ν1 ν2:Nat→Nat}:qH ((qc ν0 true false r0 r1 0 r0.toNat++qc ν1 false true r0 r1 0 r1.toNat)++qc ν2 true true r0 r1 0 (qz r0 r1 0)):=qH.append (qH.append (zd) zd) zd
theorem jv {ν0 ν1 ν2 ν3 ν4:Nat→Nat}:((((qc ν0 true false r0 r1 0 r0.toNat++qc ν1 false true r0 r1 0 r1.toNat)++qc ν2 true true r0 r1 (-1) (qz r0 r1 (-1)))++qc ν3 true true r0 r1 0 (qz r0 r1 0))++qc ν4 true true r0 r1 1 (qz r0 r1 1)).map qD=yf 2 r0 r1:=by simp only [L2,vy];rfl
theorem yu {ν0 ν1 ν2 ν3 ν4:Nat→Nat}:qH ((((qc ν0 true false r0 r1 0 r0.toNat++qc ν1 false true r0 r1 0 r1.toNat)++qc ν2 true true r0 r1 (-1) (qz r0 r1 (-1)))++qc ν3 true true r0 r1 0 (qz r0 r1 0))++qc ν4 true true r0 r1 1 (qz r0 r1 1)):=qH.append (qH.append (qH.append (qH.append (zd) zd) zd) zd) zd
theorem ju {ν0 ν1 ν2 ν3 ν4 ν5 ν6:Nat→Nat}:((((((qc ν0 true false r0 r1 0 r0.toNat++qc ν1 false true r0 r1 0 r1.toNat)++qc ν2 true true r0 r1 (-2) (qz r0 r1 (-2)))++qc ν3 true true r0 r1 (-1) (qz r0 r1 (-1)))++qc ν4 true true r0 r1 0 (qz r0 r1 0))++qc ν5 true true r0 r1 1 (qz r0 r1 1))++qc ν6 true true r0 r1 2 (qz r0 r1 2)).map qD=yf 3 r0 r1:=by simp only [L2,vy];rfl
theorem yt {ν0 ν1 ν2 ν3 ν4 ν5 ν6:Nat→Nat}:qH ((((((qc ν0 true false r0 r1 0 r0.toNat++qc ν1 false true r0 r1 0 r1.toNat)++qc ν2 true true r0 r1 (-2) (qz r0 r1 (-2)))++qc ν3 true true r0 r1 (-1) (qz r0 r1 (-1)))++qc ν4 true true r0 r1 0 (qz r0 r1 0))++qc ν5 true true r0 r1 1 (qz r0 r1 1))++qc ν6 true true r0 r1 2 (qz r0 r1 2)):=qH.append (qH.append (qH.append (qH.append (qH.append (qH.append (zd) zd) zd) zd) zd) zd) zd
end
theorem wb {num:Int} {t:U1} {arr:Array UInt8} (h:num.natAbs<256) (e:uj num.natAbs=arr):VC w 1 (apC num t arr):=e▸qfD h
theorem wa {num:Int} {t:U1} {arr:Array UInt8} (h:num.natAbs<256) (e:uj num.natAbs=arr):VC w 1 (apC (-num) t arr):=by
 have q:(-num).natAbs=num.natAbs:=Int.natAbs_neg num
 have z:=qfD (w:=w) (x := -num) (t:=t) (by rw [q];exact h)
 rw [q,e] at z
 exact z
theorem qqP {xs E0 E1:List T1} {n:Nat} {S0 S1 num:Int} {h0 h1 h2 h3 h4 h5 h6 h7 h8 h9 h10 h11 h12 h13 h14 h15:U2} {L:List Int} {rb:Bool} (I:wt xs E0 E1 S0 S1 num) (hw:E9 S1 3=0) (H:z9 w [1,2,3,5,8,13,21] [h0,h1,h2,h3,h4,h5,h6,h7,h8,h9,h10,h11,h12,h13,h14,h15] h15 L S1) (P:qZ 1 L 0 0 num rb false):qI w 4 (jo xs n) [290,194,201]:=by
 have ha:=P.oct0
 exact (qI.mk9 (qcB.1 xs n E0 E1 S0 S1 num h0 h1 h2 h3 h4 h5 h6 h7 h8 h9 h10 h11 h12 h13 h14 h15 L rb (F0 (0:Int)) (F0 (0:Int)) (qz 0 0 0)) (qa (λ_ _=>(ya (E7 I.le (by decide)) I.e0).le) (qa (λ_ _=>q7 I.i0 I.s0) (qa (λ_ _=>(ya (E7 I.le (by decide)) I.e1).le) (qa (λ_ _=>q7 I.i1 I.s1) (qa (λ_ _=>(H.hosts _ _).le) (qa (λ_ _=>(H.lost _).le) (qa (λ_ _=>(wa P.hn ha).le) (qa (λ_ _=>(wb P.hn ha).le) (qa (λ_ _=>(yz bl0 ln0 rfl).le) (qa (λ_ _=>(yy P.h0 P.h1 P.g0 P.g1).le) (qa (λ_ _=>(side_valid λp=>by obtain ⟨⟨_,_,_,h⟩,hi⟩:=p;exact jk h hi).le) (qa (λ_ _=>(side_valid λp=>by obtain ⟨⟨_,_,_,h⟩,hi⟩:=p;exact jk h hi).le) (qa (λ_ _=>qq H.adds) (qa (λ_ _=>(H.reach _).le) (qa (λ_ _=>qq H.adds) (qa (λ_ _=>(wQ (I9 P.h1) (wP P.h0)).le) (qa (λ_ _=>zw zL (y6 P.h0 P.h1 P.g0 P.g1) (.inl (wS P.h0 P.h1))) (qa (λ_ _=>ql (y7 P.h0 P.h1 P.g0 P.g1)) (qa (λ_ _=>qm) (qa (λ_ _=>ql (za P.h0 P.h1 P.g0 P.g1 (by decide) (by decide))) (qa (λ_ _=>qm) (qa (λ_ _=>(side_valid λp=>y8 p.1 p.2.1 p.2.2.1 p.2.2.2).le) (qa (λ_ _=>(qia P.q0 P.q1 P.due).le) (qa (λ_ _=>zg) (qa (λ_ _=>zg) (qa (λ_ _=>ye.le (by decide)) (qa (λ_ _=>zP) (qa (λ_ _=>ye.le (by decide)) (B0))))))))))))))))))))))))))))) (λa N t0 gN=>qf (vb uA) (qf (vb (uu P.h0)) (qf (vb (um P.h1)) (qf (vb uG) (qf (vb (uH P.d)) (qf (vb (qlj P.lt1)) (qf (vb (qcG P.lt16)) (qf (congrArg (Value.int · _) hw) (qf (congrArg (Value.int · _) I.num) (vV)))))))))) (λa N t0 gN=>qi (P.nil jw qw) (qi (P.in2 qw) (qi (P.in1 jw yv) (qi (P.foundS jw yv) (qi (E7 (F1 (apl (gl (qk P.h1)) (gl (qk P.g1))) (gl (qg P.h1))) (by decide)) (qi (E7 (F1 (gl (qk P.h1)) (gl (qk P.g1))) (by decide)) (qi (⟨H.rooms _ P.g0 P.g1 _ qw _ rfl,rfl⟩) (qi (⟨H.rooms _ P.h0 P.h1 _ qw _ rfl,rfl⟩) (qi (rfl) (uf)))))))))))
theorem qqO {xs E0 E1:List T1} {n:Nat} {S0 S1 num:Int} {h0 h1 h2 h3 h4 h5 h6 h7 h8 h9 h10 h11 h12 h13 h14 h15:U2} {L:List Int} {rb:Bool} {r1:Int} (I:wt xs E0 E1 S0 S1 num) (hw:E9 S1 3=0) (H:z9 w [1,2,3,5,8,13,21] [h0,h1,h2,h3,h4,h5,h6,h7,h8,h9,h10,h11,h12,h13,h14,h15] h15 L S1) (P:qZ 1 L 0 r1 num rb true) (s1:1≤r1):qI w 4 (jo xs n) [290,194,201]:=by
 have ha:=P.oct1 s1
 exact (qI.mk9 (qcB.2.1 xs n E0 E1 S0 S1 num h0 h1 h2 h3 h4 h5 h6 h7 h8 h9 h10 h11 h12 h13 h14 h15 L rb (F0 (0:Int)) (F0 r1) (qz 0 r1 0) r1 (zn (F0 r1))) (qa (λ_ _=>(ya (E7 I.le (by decide)) I.e0).le) (qa (λ_ _=>q7 I.i0 I.s0) (qa (λ_ _=>(ya (E7 I.le (by decide)) I.e1).le) (qa (λ_ _=>q7 I.i1 I.s1) (qa (λ_ _=>(H.hosts _ _).le) (qa (λ_ _=>(H.lost _).le) (qa (λ_ _=>(wa P.hn ha).le) (qa (λ_ _=>(wb P.hn ha).le) (qa (λ_ _=>(yz (bl1 P.g0 P.g1) ln1 (be1 P.g0 P.g1)).le) (qa (λ_ _=>(yN (wX P.g0 P.g1)).le) (qa (λ_ _=>(yy P.h0 P.h1 P.g0 P.g1).le) (qa (λ_ _=>(side_valid λp=>by obtain ⟨⟨_,_,_,h⟩,hi⟩:=p;exact jk h hi).le) (qa (λ_ _=>(side_valid λp=>by obtain ⟨⟨_,_,_,h⟩,hi⟩:=p;exact jk h hi).le) (qa (λ_ _=>qq H.adds) (qa (λ_ _=>(H.reach _).le) (qa (λ_ _=>qq H.adds) (qa (λ_ _=>(wQ (I9 P.h1) (wP P.h0)).le) (qa (λ_ _=>zw zL (y6 P.h0 P.h1 P.g0 P.g1) (.inl (wS P.h0 P.h1))) (qa (λ_ _=>ql (y7 P.h0 P.h1 P.g0 P.g1)) (qa (λ_ _=>qm) (qa (λ_ _=>ql (za P.h0 P.h1 P.g0 P.g1 (by decide) (by decide))) (qa (λ_ _=>qm) (qa (λ_ _=>(side_valid λp=>y8 p.1 p.2.1 p.2.2.1 p.2.2.2).le) (qa (λ_ _=>(qia P.q0 P.q1 P.due).le) (qa (λ_ _=>zg) (qa (λ_ _=>zg) (qa (λ_ _=>ye.le (by decide)) (qa (λ_ _=>zP) (qa (λ_ _=>ye.le (by decide)) (B0)))))))))))))))))))))))))))))) (λa N t0 gN=>qf (vb uA) (qf (vb (uu P.h0)) (qf (vb (um P.h1)) (qf (vb uG) (qf (vb (decide_eq_true rfl)) (qf (vb (decide_eq_true rfl)) (qf (vb (uH P.d)) (qf (congrArg (Value.int · _) P.q1) (qf (congrArg (Value.int · _) qcU) (qf (vb py0) (qf (vb (qcH (P.ge1 s1))) (qf (vb (qcG P.lt16)) (qf (congrArg (Value.int · _) hw) (qf (congrArg (Value.int · _) I.num) (vV))))))))))))))) (λa N t0 gN=>qi (P.nil jw qw) (qi (P.in2 qw) (qi (P.in1 jw yv) (qi (P.foundS jw yv) (qi (E7 (F1 (apl (gl (qk P.h1)) (gl (qk P.g1))) (gl (qg P.h1))) (by decide)) (qi (E7 (F1 (gl (qk P.h1)) (gl (qk P.g1))) (by decide)) (qi (⟨H.rooms _ P.g0 P.g1 _ qw _ rfl,rfl⟩) (qi (⟨H.rooms _ P.h0 P.h1 _ qw _ rfl,rfl⟩) (qi (rfl) (uf)))))))))))
theorem qqN {xs E0 E1:List T1} {n:Nat} {S0 S1 num:Int} {h0 h1 h2 h3 h4 h5 h6 h7 h8 h9 h10 h11 h12 h13 h14 h15:U2} {L:List Int} {rb:Bool} {r1:Int} {r0:Int} (I:wt xs E0 E1 S0 S1 num) (hw:E9 S1 3=0) (H:z9 w [1,2,3,5,8,13,21] [h0,h1,h2,h3,h4,h5,h6,h7,h8,h9,h10,h11,h12,h13,h14,h15] h15 L S1) (P:qZ 1 L r0 r1 num rb true) (s0:1≤r0):qI w 4 (jo xs n) [290,194,201]:=by
 have ha:=P.oct2 s0
 exact (qI.mk9 (qcB.2.2 xs n E0 E1 S0 S1 num h0 h1 h2 h3 h4 h5 h6 h7 h8 h9 h10 h11 h12 h13 h14 h15 L rb (F0 r0) (F0 r1) (qz r0 r1 0) r1 (zn (F0 r1)) r0 (zn (F0 r0))) (qa (λ_ _=>(ya (E7 I.le (by decide)) I.e0).le) (qa (λ_ _=>q7 I.i0 I.s0) (qa (λ_ _=>(ya (E7 I.le (by decide)) I.e1).le) (qa (λ_ _=>q7 I.i1 I.s1) (qa (λ_ _=>(H.hosts _ _).le) (qa (λ_ _=>(H.lost _).le) (qa (λ_ _=>(wa P.hn ha).le) (qa (λ_ _=>(wb P.hn ha).le) (qa (λ_ _=>(yz (bl2 P.h0 P.h1 P.g0 P.g1) ln2 (be2 P.h0 P.h1 P.g0 P.g1)).le) (qa (λ_ _=>(yN (wX P.h0 P.h1)).le) (qa (λ_ _=>(yN (wX P.g0 P.g1)).le) (qa (λ_ _=>(yy P.h0 P.h1 P.g0 P.g1).le) (qa (λ_ _=>(side_valid λp=>by obtain ⟨⟨_,_,_,h⟩,hi⟩:=p;exact jk h hi).le) (qa (λ_ _=>(side_valid λp=>by obtain ⟨⟨_,_,_,h⟩,hi⟩:=p;exact jk h hi).le) (qa (λ_ _=>qq H.adds) (qa (λ_ _=>(H.reach _).le) (qa (λ_ _=>qq H.adds) (qa (λ_ _=>(wQ (I9 P.h1) (wP P.h0)).le) (qa (λ_ _=>zw zL (y6 P.h0 P.h1 P.g0 P.g1) (.inl (wS P.h0 P.h1))) (qa (λ_ _=>ql (y7 P.h0 P.h1 P.g0 P.g1)) (qa (λ_ _=>qm) (qa (λ_ _=>ql (za P.h0 P.h1 P.g0 P.g1 (by decide) (by decide))) (qa (λ_ _=>qm) (qa (λ_ _=>(side_valid λp=>y8 p.1 p.2.1 p.2.2.1 p.2.2.2).le) (qa (λ_ _=>(qia P.q0 P.q1 P.due).le) (qa (λ_ _=>zg) (qa (λ_ _=>zg) (qa (λ_ _=>ye.le (by decide)) (qa (λ_ _=>zP) (qa (λ_ _=>ye.le (by decide)) (B0))))))))))))))))))))))))))))))) (λa N t0 gN=>qf (vb uA) (qf (vb (uu P.h0)) (qf (vb (um P.h1)) (qf (vb uG) (qf (vb (decide_eq_true rfl)) (qf (vb (decide_eq_true rfl)) (qf (vb (uH P.d)) (qf (congrArg (Value.int · _) P.q1) (qf (congrArg (Value.int · _) qcU) (qf (vb py0) (qf (vb (qcH (K5 (by decide) (P.ge16 s0)))) (qf (congrArg (Value.int · _) P.q2) (qf (congrArg (Value.int · _) (qlL P.q0)) (qf (vb py1) (qf (vb (qli (P.ge16 s0))) (qf (congrArg (Value.int · _) hw) (qf (congrArg (Value.int · _) I.num) (vV)))))))))))))))))) (λa N t0 gN=>qi (P.nil jw qw) (qi (P.in2 qw) (qi (P.in1 jw yv) (qi (P.foundS jw yv) (qi (E7 (F1 (apl (gl (qk P.h1)) (gl (qk P.g1))) (gl (qg P.h1))) (by decide)) (qi (E7 (F1 (gl (qk P.h1)) (gl (qk P.g1))) (by decide)) (qi (⟨H.rooms _ P.g0 P.g1 _ qw _ rfl,rfl⟩) (qi (⟨H.rooms _ P.h0 P.h1 _ qw _ rfl,rfl⟩) (qi (rfl) (uf)))))))))))
theorem qqM {xs E0 E1:List T1} {n:Nat} {S0 S1 num:Int} {h0 h1 h2 h3 h4 h5 h6 h7 h8 h9 h10 h11 h12 h13 h14 h15:U2} {L:List Int} {rb:Bool} (I:wt xs E0 E1 S0 S1 num) (hw:E9 S1 3=1) (H:z9 w [1,3,7,17] [h0,h1,h2,h3,h4,h5,h6,h7,h8,h9,h10,h11,h12,h13,h14,h15] h15 L S1) (P:qZ 2 L 0 0 num rb false):qI w 4 (jo xs n) [290,194,201]:=by
 have ha:=P.oct0
 exact (qI.mk9 (qcA.1 xs n E0 E1 S0 S1 num h0 h1 h2 h3 h4 h5 h6 h7 h8 h9 h10 h11 h12 h13 h14 h15 L rb (F0 (0:Int)) (F0 (0:Int)) (qz 0 0 (-1)) (qz 0 0 0) (qz 0 0 1)) (qa (λ_ _=>(ya (E7 I.le (by decide)) I.e0).le) (qa (λ_ _=>q7 I.i0 I.s0) (qa (λ_ _=>(ya (E7 I.le (by decide)) I.e1).le) (qa (λ_ _=>q7 I.i1 I.s1) (qa (λ_ _=>(H.hosts _ _).le) (qa (λ_ _=>(H.lost _).le) (qa (λ_ _=>(wa P.hn ha).le) (qa (λ_ _=>(wb P.hn ha).le) (qa (λ_ _=>(yz bl0 ln0 rfl).le) (qa (λ_ _=>(yy P.h0 P.h1 P.g0 P.g1).le) (qa (λ_ _=>(side_valid λp=>by obtain ⟨⟨_,_,_,h⟩,hi⟩:=p;exact jk h hi).le) (qa (λ_ _=>(side_valid λp=>by obtain ⟨⟨_,_,_,h⟩,hi⟩:=p;exact jk h hi).le) (qa (λ_ _=>qq H.adds) (qa (λ_ _=>(H.reach _).le) (qa (λ_ _=>qq H.adds) (qa (λ_ _=>(wQ (I9 P.h1) (wP P.h0)).le) (qa (λ_ _=>zw zL (y6 P.h0 P.h1 P.g0 P.g1) (.inl (wS P.h0 P.h1))) (qa (λ_ _=>ql (y7 P.h0 P.h1 P.g0 P.g1)) (qa (λ_ _=>qm) (qa (λ_ _=>ql (za P.h0 P.h1 P.g0 P.g1 (by decide) (by decide))) (qa (λ_ _=>qm) (qa (λ_ _=>ql (za P.h0 P.h1 P.g0 P.g1 (by decide) (by decide))) (qa (λ_ _=>qm) (qa (λ_ _=>ql (za P.h0 P.h1 P.g0 P.g1 (by decide) (by decide))) (qa (λ_ _=>qm) (qa (λ_ _=>(side_valid λp=>y8 p.1 p.2.1 p.2.2.1 p.2.2.2).le) (qa (λ_ _=>(qh9 P.q0 P.q1 P.due).le) (qa (λ_ _=>zg) (qa (λ_ _=>zg) (qa (λ_ _=>ye.le (by decide)) (qa (λ_ _=>zP) (qa (λ_ _=>ye.le (by decide)) (B0))))))))))))))))))))))))))))))))) (λa N t0 gN=>qf (vb uA) (qf (vb (uu P.h0)) (qf (vb (um P.h1)) (qf (vb uG) (qf (vb (uH P.d)) (qf (vb (qlj P.lt1)) (qf (vb (qcG P.lt16)) (qf (congrArg (Value.int · _) hw) (qf (congrArg (Value.int · _) I.num) (vV)))))))))) (λa N t0 gN=>qi (P.nil jv qw) (qi (P.in2 qw) (qi (P.in1 jv yu) (qi (P.foundS jv yu) (qi (E7 (F1 (apl (apl (apl (gl (qk P.h1)) (gl (qk P.g1))) (gl (qg P.h1))) (gl (qg P.h1))) (gl (qg P.h1))) (by decide)) (qi (E7 (F1 (apl (apl (gl (qk P.h1)) (gl (qk P.g1))) (gl (qg P.h1))) (gl (qg P.h1))) (by decide)) (qi (E7 (F1 (apl (gl (qk P.h1)) (gl (qk P.g1))) (gl (qg P.h1))) (by decide)) (qi (E7 (F1 (gl (qk P.h1)) (gl (qk P.g1))) (by decide)) (qi (⟨H.rooms _ P.g0 P.g1 _ qw _ rfl,rfl⟩) (qi (⟨H.rooms _ P.h0 P.h1 _ qw _ rfl,rfl⟩) (qi (rfl) (uf)))))))))))))
theorem qqL {xs E0 E1:List T1} {n:Nat} {S0 S1 num:Int} {h0 h1 h2 h3 h4 h5 h6 h7 h8 h9 h10 h11 h12 h13 h14 h15:U2} {L:List Int} {rb:Bool} {r1:Int} (I:wt xs E0 E1 S0 S1 num) (hw:E9 S1 3=1) (H:z9 w [1,3,7,17] [h0,h1,h2,h3,h4,h5,h6,h7,h8,h9,h10,h11,h12,h13,h14,h15] h15 L S1) (P:qZ 2 L 0 r1 num rb true) (s1:1≤r1):qI w 4 (jo xs n) [290,194,201]:=by
 have ha:=P.oct1 s1
 exact (qI.mk9 (qcA.2.1 xs n E0 E1 S0 S1 num h0 h1 h2 h3 h4 h5 h6 h7 h8 h9 h10 h11 h12 h13 h14 h15 L rb (F0 (0:Int)) (F0 r1) (qz 0 r1 (-1)) (qz 0 r1 0) (qz 0 r1 1) r1 (zn (F0 r1))) (qa (λ_ _=>(ya (E7 I.le (by decide)) I.e0).le) (qa (λ_ _=>q7 I.i0 I.s0) (qa (λ_ _=>(ya (E7 I.le (by decide)) I.e1).le) (qa (λ_ _=>q7 I.i1 I.s1) (qa (λ_ _=>(H.hosts _ _).le) (qa (λ_ _=>(H.lost _).le) (qa (λ_ _=>(wa P.hn ha).le) (qa (λ_ _=>(wb P.hn ha).le) (qa (λ_ _=>(yz (bl1 P.g0 P.g1) ln1 (be1 P.g0 P.g1)).le) (qa (λ_ _=>(yN (wX P.g0 P.g1)).le) (qa (λ_ _=>(yy P.h0 P.h1 P.g0 P.g1).le) (qa (λ_ _=>(side_valid λp=>by obtain ⟨⟨_,_,_,h⟩,hi⟩:=p;exact jk h hi).le) (qa (λ_ _=>(side_valid λp=>by obtain ⟨⟨_,_,_,h⟩,hi⟩:=p;exact jk h hi).le) (qa (λ_ _=>qq H.adds) (qa (λ_ _=>(H.reach _).le) (qa (λ_ _=>qq H.adds) (qa (λ_ _=>(wQ (I9 P.h1) (wP P.h0)).le) (qa (λ_ _=>zw zL (y6 P.h0 P.h1 P.g0 P.g1) (.inl (wS P.h0 P.h1))) (qa (λ_ _=>ql (y7 P.h0 P.h1 P.g0 P.g1)) (qa (λ_ _=>qm) (qa (λ_ _=>ql (za P.h0 P.h1 P.g0 P.g1 (by decide) (by decide))) (qa (λ_ _=>qm) (qa (λ_ _=>ql (za P.h0 P.h1 P.g0 P.g1 (by decide) (by decide))) (qa (λ_ _=>qm) (qa (λ_ _=>ql (za P.h0 P.h1 P.g0 P.g1 (by decide) (by decide))) (qa (λ_ _=>qm) (qa (λ_ _=>(side_valid λp=>y8 p.1 p.2.1 p.2.2.1 p.2.2.2).le) (qa (λ_ _=>(qh9 P.q0 P.q1 P.due).le) (qa (λ_ _=>zg) (qa (λ_ _=>zg) (qa (λ_ _=>ye.le (by decide)) (qa (λ_ _=>zP) (qa (λ_ _=>ye.le (by decide)) (B0)))))))))))))))))))))))))))))))))) (λa N t0 gN=>qf (vb uA) (qf (vb (uu P.h0)) (qf (vb (um P.h1)) (qf (vb uG) (qf (vb (decide_eq_true rfl)) (qf (vb (decide_eq_true rfl)) (qf (vb (uH P.d)) (qf (congrArg (Value.int · _) P.q1) (qf (congrArg (Value.int · _) qcU) (qf (vb py0) (qf (vb (qcH (P.ge1 s1))) (qf (vb (qcG P.lt16)) (qf (congrArg (Value.int · _) hw) (qf (congrArg (Value.int · _) I.num) (vV))))))))))))))) (λa N t0 gN=>qi (P.nil jv qw) (qi (P.in2 qw) (qi (P.in1 jv yu) (qi (P.foundS jv yu) (qi (E7 (F1 (apl (apl (apl (gl (qk P.h1)) (gl (qk P.g1))) (gl (qg P.h1))) (gl (qg P.h1))) (gl (qg P.h1))) (by decide)) (qi (E7 (F1 (apl (apl (gl (qk P.h1)) (gl (qk P.g1))) (gl (qg P.h1))) (gl (qg P.h1))) (by decide)) (qi (E7 (F1 (apl (gl (qk P.h1)) (gl (qk P.g1))) (gl (qg P.h1))) (by decide)) (qi (E7 (F1 (gl (qk P.h1)) (gl (qk P.g1))) (by decide)) (qi (⟨H.rooms _ P.g0 P.g1 _ qw _ rfl,rfl⟩) (qi (⟨H.rooms _ P.h0 P.h1 _ qw _ rfl,rfl⟩) (qi (rfl) (uf)))))))))))))
theorem qqK {xs E0 E1:List T1} {n:Nat} {S0 S1 num:Int} {h0 h1 h2 h3 h4 h5 h6 h7 h8 h9 h10 h11 h12 h13 h14 h15:U2} {L:List Int} {rb:Bool} {r1:Int} {r0:Int} (I:wt xs E0 E1 S0 S1 num) (hw:E9 S1 3=1) (H:z9 w [1,3,7,17] [h0,h1,h2,h3,h4,h5,h6,h7,h8,h9,h10,h11,h12,h13,h14,h15] h15 L S1) (P:qZ 2 L r0 r1 num rb true) (s0:1≤r0):qI w 4 (jo xs n) [290,194,201]:=by
 have ha:=P.oct2 s0
 exact (qI.mk9 (qcA.2.2 xs n E0 E1 S0 S1 num h0 h1 h2 h3 h4 h5 h6 h7 h8 h9 h10 h11 h12 h13 h14 h15 L rb (F0 r0) (F0 r1) (qz r0 r1 (-1)) (qz r0 r1 0) (qz r0 r1 1) r1 (zn (F0 r1)) r0 (zn (F0 r0))) (qa (λ_ _=>(ya (E7 I.le (by decide)) I.e0).le) (qa (λ_ _=>q7 I.i0 I.s0) (qa (λ_ _=>(ya (E7 I.le (by decide)) I.e1).le) (qa (λ_ _=>q7 I.i1 I.s1) (qa (λ_ _=>(H.hosts _ _).le) (qa (λ_ _=>(H.lost _).le) (qa (λ_ _=>(wa P.hn ha).le) (qa (λ_ _=>(wb P.hn ha).le) (qa (λ_ _=>(yz (bl2 P.h0 P.h1 P.g0 P.g1) ln2 (be2 P.h0 P.h1 P.g0 P.g1)).le) (qa (λ_ _=>(yN (wX P.h0 P.h1)).le) (qa (λ_ _=>(yN (wX P.g0 P.g1)).le) (qa (λ_ _=>(yy P.h0 P.h1 P.g0 P.g1).le) (qa (λ_ _=>(side_valid λp=>by obtain ⟨⟨_,_,_,h⟩,hi⟩:=p;exact jk h hi).le) (qa (λ_ _=>(side_valid λp=>by obtain ⟨⟨_,_,_,h⟩,hi⟩:=p;exact jk h hi).le) (qa (λ_ _=>qq H.adds) (qa (λ_ _=>(H.reach _).le) (qa (λ_ _=>qq H.adds) (qa (λ_ _=>(wQ (I9 P.h1) (wP P.h0)).le) (qa (λ_ _=>zw zL (y6 P.h0 P.h1 P.g0 P.g1) (.inl (wS P.h0 P.h1))) (qa (λ_ _=>ql (y7 P.h0 P.h1 P.g0 P.g1)) (qa (λ_ _=>qm) (qa (λ_ _=>ql (za P.h0 P.h1 P.g0 P.g1 (by decide) (by decide))) (qa (λ_ _=>qm) (qa (λ_ _=>ql (za P.h0 P.h1 P.g0 P.g1 (by decide) (by decide))) (qa (λ_ _=>qm) (qa (λ_ _=>ql (za P.h0 P.h1 P.g0 P.g1 (by decide) (by decide))) (qa (λ_ _=>qm) (qa (λ_ _=>(side_valid λp=>y8 p.1 p.2.1 p.2.2.1 p.2.2.2).le) (qa (λ_ _=>(qh9 P.q0 P.q1 P.due).le) (qa (λ_ _=>zg) (qa (λ_ _=>zg) (qa (λ_ _=>ye.le (by decide)) (qa (λ_ _=>zP) (qa (λ_ _=>ye.le (by decide)) (B0))))))))))))))))))))))))))))))))))) (λa N t0 gN=>qf (vb uA) (qf (vb (uu P.h0)) (qf (vb (um P.h1)) (qf (vb uG) (qf (vb (decide_eq_true rfl)) (qf (vb (decide_eq_true rfl)) (qf (vb (uH P.d)) (qf (congrArg (Value.int · _) P.q1) (qf (congrArg (Value.int · _) qcU) (qf (vb py0) (qf (vb (qcH (K5 (by decide) (P.ge16 s0)))) (qf (congrArg (Value.int · _) P.q2) (qf (congrArg (Value.int · _) (qlL P.q0)) (qf (vb py1) (qf (vb (qli (P.ge16 s0))) (qf (congrArg (Value.int · _) hw) (qf (congrArg (Value.int · _) I.num) (vV)))))))))))))))))) (λa N t0 gN=>qi (P.nil jv qw) (qi (P.in2 qw) (qi (P.in1 jv yu) (qi (P.foundS jv yu) (qi (E7 (F1 (apl (apl (apl (gl (qk P.h1)) (gl (qk P.g1))) (gl (qg P.h1))) (gl (qg P.h1))) (gl (qg P.h1))) (by decide)) (qi (E7 (F1 (apl (apl (gl (qk P.h1)) (gl (qk P.g1))) (gl (qg P.h1))) (gl (qg P.h1))) (by decide)) (qi (E7 (F1 (apl (gl (qk P.h1)) (gl (qk P.g1))) (gl (qg P.h1))) (by decide)) (qi (E7 (F1 (gl (qk P.h1)) (gl (qk P.g1))) (by decide)) (qi (⟨H.rooms _ P.g0 P.g1 _ qw _ rfl,rfl⟩) (qi (⟨H.rooms _ P.h0 P.h1 _ qw _ rfl,rfl⟩) (qi (rfl) (uf)))))))))))))
theorem qqJ {xs E0 E1:List T1} {n:Nat} {S0 S1 num:Int} {h0 h1 h2 h3 h4 h5 h6 h7 h8 h9 h10 h11 h12 h13 h14 h15:U2} {L:List Int} {rb:Bool} (I:wt xs E0 E1 S0 S1 num) (hw:E9 S1 3=2) (H:z9 w [1,4,13,43] [h0,h1,h2,h3,h4,h5,h6,h7,h8,h9,h10,h11,h12,h13,h14,h15] h15 L S1) (P:qZ 3 L 0 0 num rb false):qI w 4 (jo xs n) [290,194,201]:=by
 have ha:=P.oct0
 exact (qI.mk9 (qcz.1 xs n E0 E1 S0 S1 num h0 h1 h2 h3 h4 h5 h6 h7 h8 h9 h10 h11 h12 h13 h14 h15 L rb (F0 (0:Int)) (F0 (0:Int)) (qz 0 0 (-2)) (qz 0 0 (-1)) (qz 0 0 0) (qz 0 0 1) (qz 0 0 2)) (qa (λ_ _=>(ya (E7 I.le (by decide)) I.e0).le) (qa (λ_ _=>q7 I.i0 I.s0) (qa (λ_ _=>(ya (E7 I.le (by decide)) I.e1).le) (qa (λ_ _=>q7 I.i1 I.s1) (qa (λ_ _=>(H.hosts _ _).le) (qa (λ_ _=>(H.lost _).le) (qa (λ_ _=>(wa P.hn ha).le) (qa (λ_ _=>(wb P.hn ha).le) (qa (λ_ _=>(yz bl0 ln0 rfl).le) (qa (λ_ _=>(yy P.h0 P.h1 P.g0 P.g1).le) (qa (λ_ _=>(side_valid λp=>by obtain ⟨⟨_,_,_,h⟩,hi⟩:=p;exact jk h hi).le) (qa (λ_ _=>(side_valid λp=>by obtain ⟨⟨_,_,_,h⟩,hi⟩:=p;exact jk h hi).le) (qa (λ_ _=>qq H.adds) (qa (λ_ _=>(H.reach _).le) (qa (λ_ _=>qq H.adds) (qa (λ_ _=>(wQ (I9 P.h1) (wP P.h0)).le) (qa (λ_ _=>zw zL (y6 P.h0 P.h1 P.g0 P.g1) (.inl (wS P.h0 P.h1))) (qa (λ_ _=>ql (y7 P.h0 P.h1 P.g0 P.g1)) (qa (λ_ _=>qm) (qa (λ_ _=>ql (za P.h0 P.h1 P.g0 P.g1 (by decide) (by decide))) (qa (λ_ _=>qm) (qa (λ_ _=>ql (za P.h0 P.h1 P.g0 P.g1 (by decide) (by decide))) (qa (λ_ _=>qm) (qa (λ_ _=>ql (za P.h0 P.h1 P.g0 P.g1 (by decide) (by decide))) (qa (λ_ _=>qm) (qa (λ_ _=>ql (za P.h0 P.h1 P.g0 P.g1 (by decide) (by decide))) (qa (λ_ _=>qm) (qa (λ_ _=>ql (za P.h0 P.h1 P.g0 P.g1 (by decide) (by decide))) (qa (λ_ _=>qm) (qa (λ_ _=>(side_valid λp=>y8 p.1 p.2.1 p.2.2.1 p.2.2.2).le) (qa (λ_ _=>(qh8 P.q0 P.q1 P.due).le) (qa (λ_ _=>zg) (qa (λ_ _=>zg) (qa (λ_ _=>ye.le (by decide)) (qa (λ_ _=>zP) (qa (λ_ _=>ye.le (by decide)) (B0))))))))))))))))))))))))))))))))))))) (λa N t0 gN=>qf (vb uA) (qf (vb (uu P.h0)) (qf (vb (um P.h1)) (qf (vb uG) (qf (vb (uH P.d)) (qf (vb (qlj P.lt1)) (qf (vb (qcG P.lt16)) (qf (congrArg (Value.int · _) hw) (qf (congrArg (Value.int · _) I.num) (vV)))))))))) (λa N t0 gN=>qi (P.nil ju qw) (qi (P.in2 qw) (qi (P.in1 ju yt) (qi (P.foundS ju yt) (qi (E7 (F1 (apl (apl (apl (apl (apl (gl (qk P.h1)) (gl (qk P.g1))) (gl (qg P.h1))) (gl (qg P.h1))) (gl (qg P.h1))) (gl (qg P.h1))) (gl (qg P.h1))) (by decide)) (qi (E7 (F1 (apl (apl (apl (apl (gl (qk P.h1)) (gl (qk P.g1))) (gl (qg P.h1))) (gl (qg P.h1))) (gl (qg P.h1))) (gl (qg P.h1))) (by decide)) (qi (E7 (F1 (apl (apl (apl (gl (qk P.h1)) (gl (qk P.g1))) (gl (qg P.h1))) (gl (qg P.h1))) (gl (qg P.h1))) (by decide)) (qi (E7 (F1 (apl (apl (gl (qk P.h1)) (gl (qk P.g1))) (gl (qg P.h1))) (gl (qg P.h1))) (by decide)) (qi (E7 (F1 (apl (gl (qk P.h1)) (gl (qk P.g1))) (gl (qg P.h1))) (by decide)) (qi (E7 (F1 (gl (qk P.h1)) (gl (qk P.g1))) (by decide)) (qi (⟨H.rooms _ P.g0 P.g1 _ qw _ rfl,rfl⟩) (qi (⟨H.rooms _ P.h0 P.h1 _ qw _ rfl,rfl⟩) (qi (rfl) (uf)))))))))))))))
theorem qqI {xs E0 E1:List T1} {n:Nat} {S0 S1 num:Int} {h0 h1 h2 h3 h4 h5 h6 h7 h8 h9 h10 h11 h12 h13 h14 h15:U2} {L:List Int} {rb:Bool} {r1:Int} (I:wt xs E0 E1 S0 S1 num) (hw:E9 S1 3=2) (H:z9 w [1,4,13,43] [h0,h1,h2,h3,h4,h5,h6,h7,h8,h9,h10,h11,h12,h13,h14,h15] h15 L S1) (P:qZ 3 L 0 r1 num rb true) (s1:1≤r1):qI w 4 (jo xs n) [290,194,201]:=by
 have ha:=P.oct1 s1
 exact (qI.mk9 (qcz.2.1 xs n E0 E1 S0 S1 num h0 h1 h2 h3 h4 h5 h6 h7 h8 h9 h10 h11 h12 h13 h14 h15 L rb (F0 (0:Int)) (F0 r1) (qz 0 r1 (-2)) (qz 0 r1 (-1)) (qz 0 r1 0) (qz 0 r1 1) (qz 0 r1 2) r1 (zn (F0 r1))) (qa (λ_ _=>(ya (E7 I.le (by decide)) I.e0).le) (qa (λ_ _=>q7 I.i0 I.s0) (qa (λ_ _=>(ya (E7 I.le (by decide)) I.e1).le) (qa (λ_ _=>q7 I.i1 I.s1) (qa (λ_ _=>(H.hosts _ _).le) (qa (λ_ _=>(H.lost _).le) (qa (λ_ _=>(wa P.hn ha).le) (qa (λ_ _=>(wb P.hn ha).le) (qa (λ_ _=>(yz (bl1 P.g0 P.g1) ln1 (be1 P.g0 P.g1)).le) (qa (λ_ _=>(yN (wX P.g0 P.g1)).le) (qa (λ_ _=>(yy P.h0 P.h1 P.g0 P.g1).le) (qa (λ_ _=>(side_valid λp=>by obtain ⟨⟨_,_,_,h⟩,hi⟩:=p;exact jk h hi).le) (qa (λ_ _=>(side_valid λp=>by obtain ⟨⟨_,_,_,h⟩,hi⟩:=p;exact jk h hi).le) (qa (λ_ _=>qq H.adds) (qa (λ_ _=>(H.reach _).le) (qa (λ_ _=>qq H.adds) (qa (λ_ _=>(wQ (I9 P.h1) (wP P.h0)).le) (qa (λ_ _=>zw zL (y6 P.h0 P.h1 P.g0 P.g1) (.inl (wS P.h0 P.h1))) (qa (λ_ _=>ql (y7 P.h0 P.h1 P.g0 P.g1)) (qa (λ_ _=>qm) (qa (λ_ _=>ql (za P.h0 P.h1 P.g0 P.g1 (by decide) (by decide))) (qa (λ_ _=>qm) (qa (λ_ _=>ql (za P.h0 P.h1 P.g0 P.g1 (by decide) (by decide))) (qa (λ_ _=>qm) (qa (λ_ _=>ql (za P.h0 P.h1 P.g0 P.g1 (by decide) (by decide))) (qa (λ_ _=>qm) (qa (λ_ _=>ql (za P.h0 P.h1 P.g0 P.g1 (by decide) (by decide))) (qa (λ_ _=>qm) (qa (λ_ _=>ql (za P.h0 P.h1 P.g0 P.g1 (by decide) (by decide))) (qa (λ_ _=>qm) (qa (λ_ _=>(side_valid λp=>y8 p.1 p.2.1 p.2.2.1 p.2.2.2).le) (qa (λ_ _=>(qh8 P.q0 P.q1 P.due).le) (qa (λ_ _=>zg) (qa (λ_ _=>zg) (qa (λ_ _=>ye.le (by decide)) (qa (λ_ _=>zP) (qa (λ_ _=>ye.le (by decide)) (B0)))))))))))))))))))))))))))))))))))))) (λa N t0 gN=>qf (vb uA) (qf (vb (uu P.h0)) (qf (vb (um P.h1)) (qf (vb uG) (qf (vb (decide_eq_true rfl)) (qf (vb (decide_eq_true rfl)) (qf (vb (uH P.d)) (qf (congrArg (Value.int · _) P.q1) (qf (congrArg (Value.int · _) qcU) (qf (vb py0) (qf (vb (qcH (P.ge1 s1))) (qf (vb (qcG P.lt16)) (qf (congrArg (Value.int · _) hw) (qf (congrArg (Value.int · _) I.num) (vV))))))))))))))) (λa N t0 gN=>qi (P.nil ju qw) (qi (P.in2 qw) (qi (P.in1 ju yt) (qi (P.foundS ju yt) (qi (E7 (F1 (apl (apl (apl (apl (apl (gl (qk P.h1)) (gl (qk P.g1))) (gl (qg P.h1))) (gl (qg P.h1))) (gl (qg P.h1))) (gl (qg P.h1))) (gl (qg P.h1))) (by decide)) (qi (E7 (F1 (apl (apl (apl (apl (gl (qk P.h1)) (gl (qk P.g1))) (gl (qg P.h1))) (gl (qg P.h1))) (gl (qg P.h1))) (gl (qg P.h1))) (by decide)) (qi (E7 (F1 (apl (apl (apl (gl (qk P.h1)) (gl (qk P.g1))) (gl (qg P.h1))) (gl (qg P.h1))) (gl (qg P.h1))) (by decide)) (qi (E7 (F1 (apl (apl (gl (qk P.h1)) (gl (qk P.g1))) (gl (qg P.h1))) (gl (qg P.h1))) (by decide)) (qi (E7 (F1 (apl (gl (qk P.h1)) (gl (qk P.g1))) (gl (qg P.h1))) (by decide)) (qi (E7 (F1 (gl (qk P.h1)) (gl (qk P.g1))) (by decide)) (qi (⟨H.rooms _ P.g0 P.g1 _ qw _ rfl,rfl⟩) (qi (⟨H.rooms _ P.h0 P.h1 _ qw _ rfl,rfl⟩) (qi (rfl) (uf)))))))))))))))
theorem qqH {xs E0 E1:List T1} {n:Nat} {S0 S1 num:Int} {h0 h1 h2 h3 h4 h5 h6 h7 h8 h9 h10 h11 h12 h13 h14 h15:U2} {L:List Int} {rb:Bool} {r1:Int} {r0:Int} (I:wt xs E0 E1 S0 S1 num) (hw:E9 S1 3=2) (H:z9 w [1,4,13,43] [h0,h1,h2,h3,h4,h5,h6,h7,h8,h9,h10,h11,h12,h13,h14,h15] h15 L S1) (P:qZ 3 L r0 r1 num rb true) (s0:1≤r0):qI w 4 (jo xs n) [290,194,201]:=by
 have ha:=P.oct2 s0
 exact (qI.mk9 (qcz.2.2 xs n E0 E1 S0 S1 num h0 h1 h2 h3 h4 h5 h6 h7 h8 h9 h10 h11 h12 h13 h14 h15 L rb (F0 r0) (F0 r1) (qz r0 r1 (-2)) (qz r0 r1 (-1)) (qz r0 r1 0) (qz r0 r1 1) (qz r0 r1 2) r1 (zn (F0 r1)) r0 (zn (F0 r0))) (qa (λ_ _=>(ya (E7 I.le (by decide)) I.e0).le) (qa (λ_ _=>q7 I.i0 I.s0) (qa (λ_ _=>(ya (E7 I.le (by decide)) I.e1).le) (qa (λ_ _=>q7 I.i1 I.s1) (qa (λ_ _=>(H.hosts _ _).le) (qa (λ_ _=>(H.lost _).le) (qa (λ_ _=>(wa P.hn ha).le) (qa (λ_ _=>(wb P.hn ha).le) (qa (λ_ _=>(yz (bl2 P.h0 P.h1 P.g0 P.g1) ln2 (be2 P.h0 P.h1 P.g0 P.g1)).le) (qa (λ_ _=>(yN (wX P.h0 P.h1)).le) (qa (λ_ _=>(yN (wX P.g0 P.g1)).le) (qa (λ_ _=>(yy P.h0 P.h1 P.g0 P.g1).le) (qa (λ_ _=>(side_valid λp=>by obtain ⟨⟨_,_,_,h⟩,hi⟩:=p;exact jk h hi).le) (qa (λ_ _=>(side_valid λp=>by obtain ⟨⟨_,_,_,h⟩,hi⟩:=p;exact jk h hi).le) (qa (λ_ _=>qq H.adds) (qa (λ_ _=>(H.reach _).le) (qa (λ_ _=>qq H.adds) (qa (λ_ _=>(wQ (I9 P.h1) (wP P.h0)).le) (qa (λ_ _=>zw zL (y6 P.h0 P.h1 P.g0 P.g1) (.inl (wS P.h0 P.h1))) (qa (λ_ _=>ql (y7 P.h0 P.h1 P.g0 P.g1)) (qa (λ_ _=>qm) (qa (λ_ _=>ql (za P.h0 P.h1 P.g0 P.g1 (by decide) (by decide))) (qa (λ_ _=>qm) (qa (λ_ _=>ql (za P.h0 P.h1 P.g0 P.g1 (by decide) (by decide))) (qa (λ_ _=>qm) (qa (λ_ _=>ql (za P.h0 P.h1 P.g0 P.g1 (by decide) (by decide))) (qa (λ_ _=>qm) (qa (λ_ _=>ql (za P.h0 P.h1 P.g0 P.g1 (by decide) (by decide))) (qa (λ_ _=>qm) (qa (λ_ _=>ql (za P.h0 P.h1 P.g0 P.g1 (by decide) (by decide))) (qa (λ_ _=>qm) (qa (λ_ _=>(side_valid λp=>y8 p.1 p.2.1 p.2.2.1 p.2.2.2).le) (qa (λ_ _=>(qh8 P.q0 P.q1 P.due).le) (qa (λ_ _=>zg) (qa (λ_ _=>zg) (qa (λ_ _=>ye.le (by decide)) (qa (λ_ _=>zP) (qa (λ_ _=>ye.le (by decide)) (B0))))))))))))))))))))))))))))))))))))))) (λa N t0 gN=>qf (vb uA) (qf (vb (uu P.h0)) (qf (vb (um P.h1)) (qf (vb uG) (qf (vb (decide_eq_true rfl)) (qf (vb (decide_eq_true rfl)) (qf (vb (uH P.d)) (qf (congrArg (Value.int · _) P.q1) (qf (congrArg (Value.int · _) qcU) (qf (vb py0) (qf (vb (qcH (K5 (by decide) (P.ge16 s0)))) (qf (congrArg (Value.int · _) P.q2) (qf (congrArg (Value.int · _) (qlL P.q0)) (qf (vb py1) (qf (vb (qli (P.ge16 s0))) (qf (congrArg (Value.int · _) hw) (qf (congrArg (Value.int · _) I.num) (vV)))))))))))))))))) (λa N t0 gN=>qi (P.nil ju qw) (qi (P.in2 qw) (qi (P.in1 ju yt) (qi (P.foundS ju yt) (qi (E7 (F1 (apl (apl (apl (apl (apl (gl (qk P.h1)) (gl (qk P.g1))) (gl (qg P.h1))) (gl (qg P.h1))) (gl (qg P.h1))) (gl (qg P.h1))) (gl (qg P.h1))) (by decide)) (qi (E7 (F1 (apl (apl (apl (apl (gl (qk P.h1)) (gl (qk P.g1))) (gl (qg P.h1))) (gl (qg P.h1))) (gl (qg P.h1))) (gl (qg P.h1))) (by decide)) (qi (E7 (F1 (apl (apl (apl (gl (qk P.h1)) (gl (qk P.g1))) (gl (qg P.h1))) (gl (qg P.h1))) (gl (qg P.h1))) (by decide)) (qi (E7 (F1 (apl (apl (gl (qk P.h1)) (gl (qk P.g1))) (gl (qg P.h1))) (gl (qg P.h1))) (by decide)) (qi (E7 (F1 (apl (gl (qk P.h1)) (gl (qk P.g1))) (gl (qg P.h1))) (by decide)) (qi (E7 (F1 (gl (qk P.h1)) (gl (qk P.g1))) (by decide)) (qi (⟨H.rooms _ P.g0 P.g1 _ qw _ rfl,rfl⟩) (qi (⟨H.rooms _ P.h0 P.h1 _ qw _ rfl,rfl⟩) (qi (rfl) (uf)))))))))))))))
end
section
variable {w:T3}
theorem qlf (t k0 k1 k2 k3 k4 k5 k6:U1) (lv:Nat) (tail:U2) (t2:U1) (r:U2) (a0:Nat):RunOk w (hostC 0 t [1,2,3,5,8,13,21] [k0,k1,k2,k3,k4,k5,k6] lv tail t2 tail) 1 590 [a0] [] (hx 0x1013d1110112d0ed40fd11d0112f0dd00220601e1010cd1718e0bd1718e0ad1718e09d1718e08d1718e07d1718e06d115f111f221110105d04d0f21f03d0001d10012f02d000d) [] [] (λ_ _ _ _=>[]) (λa N t0 gN=>[t2]):=λN t0 gN a x' y' z'=>by
 kernel_rfl
noncomputable def qaq:List Nat:=hx 0x1010d111010fd0bd40cd0ed0112f0ad00220601e10109d1718e08d1718e07d1718e06d115f111f221110105d04d0f21f03d0001d10012f02d000d
theorem qle (t k0 k1 k2 k3:U1) (lv:Nat) (tail:U2) (t2:U1) (r:U2) (a0:Nat):RunOk w (hostC 0 t [1,3,7,17] [k0,k1,k2,k3] lv tail t2 tail) 1 413 [a0] [] qaq [] [] (λ_ _ _ _=>[]) (λa N t0 gN=>[t2]):=λN t0 gN a x' y' z'=>by
 kernel_rfl
theorem qld (t k0 k1 k2 k3:U1) (lv:Nat) (tail:U2) (t2:U1) (r:U2) (a0:Nat):RunOk w (hostC 0 t [1,4,13,43] [k0,k1,k2,k3] lv tail t2 tail) 1 413 [a0] [] qaq [] [] (λ_ _ _ _=>[]) (λa N t0 gN=>[t2]):=λN t0 gN a x' y' z'=>by
 kernel_rfl
structure vk (labs:List U2) (tail r:U2):Prop where
 le:r.length≤1000
 eq:Builtin.Str.glued zy (labs++[tail])=r
 nl:zA zy (labs++[tail])=false
theorem vk.au {labs:List U2} {tail r:U2} (h1:r.length≤1000:=by decide +kernel) (h2:Builtin.Str.glued zy (labs++[tail])=r:=by kernel_rfl) (h3:zA zy (labs++[tail])=false:=by kernel_rfl):vk labs tail r:=⟨h1,h2,h3⟩
theorem vk.vq {labs:List U2} {tail r:U2} (h:vk labs tail r):∀p∈hostVq labs tail r,p.1=p.2:=by
 intro p hp
 have hl:=h.le
 simp only [hostVq,E2,F5,or_false] at hp
 rcases hp with rfl | rfl | rfl
 ·exact vb (decide_eq_false (by unfold sizeLine;omega))
 ·show Value.str _ 0=Value.str _ 0
  rw [h.eq]
 ·exact vb h.nl
theorem qby {t k0 k1 k2 k3 k4 k5 k6:U1} {lv:Nat} {tail:U2} {t2:U1} {r:U2}:VC w 1 (hostC 0 t [1,2,3,5,8,13,21] [k0,k1,k2,k3,k4,k5,k6] lv tail t2 tail):=by
 refine qu 1 λads hl hok => ?_
 obtain ⟨a0,rfl⟩:=qbA hl
 exact (C2 (qlf t k0 k1 k2 k3 k4 k5 k6 lv tail t2 tail a0) B0 (λ_ _ _ _ _ h=>nomatch h))
noncomputable def hV1 (w:T3) (n:Nat) (labs:List U2):Prop:=∀{t k0 k1 k2 k3 k4 k5 k6:U1} {lv:Nat} {tail:U2} {t2:U1} {r:U2},vk labs tail r→VC w 1 (hostC n t [1,2,3,5,8,13,21] [k0,k1,k2,k3,k4,k5,k6] lv tail t2 r)
theorem qO:hV1 w 1 [⟨#[105]⟩]∧hV1 w 2 [⟨#[110]⟩,⟨#[105]⟩]∧hV1 w 3 [⟨#[110]⟩,⟨#[110]⟩,⟨#[105]⟩]∧hV1 w 4 [⟨#[105]⟩,⟨#[110]⟩,⟨#[105]⟩]∧hV1 w 5 [⟨#[110]⟩,⟨#[110]⟩,⟨#[110]⟩,⟨#[105]⟩]∧hV1 w 6 [⟨#[105]⟩,⟨#[110]⟩,⟨#[110]⟩,⟨#[105]⟩]∧hV1 w 7 [⟨#[110]⟩,⟨#[105]⟩,⟨#[110]⟩,⟨#[105]⟩]∧hV1 w 8 [⟨#[110]⟩,⟨#[110]⟩,⟨#[110]⟩,⟨#[110]⟩,⟨#[105]⟩]:=by
 refine ⟨?_,?_,?_,?_,?_,?_,?_,?_⟩
 ·intro t k0 k1 k2 k3 k4 k5 k6 lv tail t2 r h;exact vcr 1 940 [] (hx 0x1013d1110112d5500411d0130f20f0ed0f0fd0112f0dd0f18e0cd1718e0bd1718e0ad1718e09d1718e08d1718e07d110942e11f221110106d20f100614e10075ce1f04d0f32311e0905e14f0618e041010116f05d1f10130021f03d0001d10012f02d000d) [(47, .bool false),(0, .str r 0),oF] [] (λ_ _ _ _=>hostVq [⟨#[105]⟩] tail r) (λa N t0 gN=>[t0+67]) B0 (λ_ _ _ _=>h.vq)
 ·intro t k0 k1 k2 k3 k4 k5 k6 lv tail t2 r h;exact vcr 1 913 [] (hx 0x1012d1110111d5500410d070fe07c1e30130f20f0dd000ed0112f0cd0f18e0bd1718e0ad1718e09d1718e08d1718e07d110942e11f221110106d20f100614e10075ce1f04d0f32311e0905e14f0618e041010116f05d1f10130021f03d0001d10012f02d000d) [(46, .bool false),(0, .str r 0),oF] [] (λ_ _ _ _=>hostVq [⟨#[110]⟩,⟨#[105]⟩] tail r) (λa N t0 gN=>[t0+67]) B0 (λ_ _ _ _=>h.vq)
 ·intro t k0 k1 k2 k3 k4 k5 k6 lv tail t2 r h;exact vcr 1 890 [] (hx 0x1011d1110110d550040fd0c0fe0a0ee0694e30130f20f0cd000dd0112f0bd0f18e0ad1718e09d1718e08d1718e07d110942e11f221110106d20f100614e10075ce1f04d0f32311e0905e14f0618e041010116f05d1f10130021f03d0001d10012f02d000d) [(46, .bool false),(0, .str r 0),oF] [] (λ_ _ _ _=>hostVq [⟨#[110]⟩,⟨#[110]⟩,⟨#[105]⟩] tail r) (λa N t0 gN=>[t0+69]) B0 (λ_ _ _ _=>h.vq)
 ·intro t k0 k1 k2 k3 k4 k5 k6 lv tail t2 r h;exact vcr 1 1244 [] (hx 0x1012d1110111d5500410d0c0fe0a0ee0695e30130f20f0dd0f0ed0112f0cd0f18e0bd1718e0ad1718e09d1718e08d110942e11f221110107d201770e43f70e30f70e06d0714e400100614e10075ce1f04d0f32311e0905e14f0618e041010116f05d1f10130021f03d0001d10012f02d000d) [(73, .bool false),(0, .str r 0),oF] [] (λ_ _ _ _=>hostVq [⟨#[105]⟩,⟨#[110]⟩,⟨#[105]⟩] tail r) (λa N t0 gN=>[t0+103]) B0 (λ_ _ _ _=>h.vq)
 ·intro t k0 k1 k2 k3 k4 k5 k6 lv tail t2 r h;exact vcr 1 859 [] (hx 0x1010d111010fd550040ed0c0fe180ee067ce30130f20f0bd000cd0112f0ad0f18e09d1718e08d1718e07d110942e11f221110106d20f100614e10075ce1f04d0f32311e0905e14f0618e041010116f05d1f10130021f03d0001d10012f02d000d) [(44, .bool false),(0, .str r 0),oF] [] (λ_ _ _ _=>hostVq [⟨#[110]⟩,⟨#[110]⟩,⟨#[110]⟩,⟨#[105]⟩] tail r) (λa N t0 gN=>[t0+67]) B0 (λ_ _ _ _=>h.vq)
 ·intro t k0 k1 k2 k3 k4 k5 k6 lv tail t2 r h;exact vcr 1 1213 [] (hx 0x1011d1110110d550040fd0c0fe180ee067de30130f20f0cd0f0dd0112f0bd0f18e0ad1718e09d1718e08d110942e11f221110107d201770e43f70e30f70e06d0714e400100614e10075ce1f04d0f32311e0905e14f0618e041010116f05d1f10130021f03d0001d10012f02d000d) [(71, .bool false),(0, .str r 0),oF] [] (λ_ _ _ _=>hostVq [⟨#[105]⟩,⟨#[110]⟩,⟨#[110]⟩,⟨#[105]⟩] tail r) (λa N t0 gN=>[t0+101]) B0 (λ_ _ _ _=>h.vq)
 ·intro t k0 k1 k2 k3 k4 k5 k6 lv tail t2 r h;exact vcr 1 1213 [] (hx 0x1011d1110110d550040fd0c0fe0e0ee0a0fe0791e30130f20f0cd000dd0112f0bd0f18e0ad1718e09d1718e08d110942e11f221110107d201770e43f70e30f70e06d0714e400100614e10075ce1f04d0f32311e0905e14f0618e041010116f05d1f10130021f03d0001d10012f02d000d) [(71, .bool false),(0, .str r 0),oF] [] (λ_ _ _ _=>hostVq [⟨#[110]⟩,⟨#[105]⟩,⟨#[110]⟩,⟨#[105]⟩] tail r) (λa N t0 gN=>[t0+101]) B0 (λ_ _ _ _=>h.vq)
 ·intro t k0 k1 k2 k3 k4 k5 k6 lv tail t2 r h;exact vcr 1 836 [] (hx 0x100fd111010ed550040dd0c0fe260ee0664e30130f20f0ad000bd0112f09d0f18e08d1718e07d110942e11f221110106d20f100614e10075ce1f04d0f32311e0905e14f0618e041010116f05d1f10130021f03d0001d10012f02d000d) [(44, .bool false),(0, .str r 0),oF] [] (λ_ _ _ _=>hostVq [⟨#[110]⟩,⟨#[110]⟩,⟨#[110]⟩,⟨#[110]⟩,⟨#[105]⟩] tail r) (λa N t0 gN=>[t0+69]) B0 (λ_ _ _ _=>h.vq)
theorem qX:hV1 w 9 [⟨#[105]⟩,⟨#[110]⟩,⟨#[110]⟩,⟨#[110]⟩,⟨#[105]⟩]∧hV1 w 10 [⟨#[110]⟩,⟨#[105]⟩,⟨#[110]⟩,⟨#[110]⟩,⟨#[105]⟩]∧hV1 w 11 [⟨#[110]⟩,⟨#[110]⟩,⟨#[105]⟩,⟨#[110]⟩,⟨#[105]⟩]∧hV1 w 12 [⟨#[105]⟩,⟨#[110]⟩,⟨#[105]⟩,⟨#[110]⟩,⟨#[105]⟩]∧hV1 w 13 [⟨#[110]⟩,⟨#[110]⟩,⟨#[110]⟩,⟨#[110]⟩,⟨#[110]⟩,⟨#[105]⟩]∧hV1 w 14 [⟨#[105]⟩,⟨#[110]⟩,⟨#[110]⟩,⟨#[110]⟩,⟨#[110]⟩,⟨#[105]⟩]∧hV1 w 15 [⟨#[110]⟩,⟨#[105]⟩,⟨#[110]⟩,⟨#[110]⟩,⟨#[110]⟩,⟨#[105]⟩]:=by
 refine ⟨?_,?_,?_,?_,?_,?_,?_⟩
 ·intro t k0 k1 k2 k3 k4 k5 k6 lv tail t2 r h;exact vcr 1 1190 [] (hx 0x1010d111010fd550040ed0c0fe260ee0665e30130f20f0bd0f0cd0112f0ad0f18e09d1718e08d110942e11f221110107d201770e43f70e30f70e06d0714e400100614e10075ce1f04d0f32311e0905e14f0618e041010116f05d1f10130021f03d0001d10012f02d000d) [(71, .bool false),(0, .str r 0),oF] [] (λ_ _ _ _=>hostVq [⟨#[105]⟩,⟨#[110]⟩,⟨#[110]⟩,⟨#[110]⟩,⟨#[105]⟩] tail r) (λa N t0 gN=>[t0+103]) B0 (λ_ _ _ _=>h.vq)
 ·intro t k0 k1 k2 k3 k4 k5 k6 lv tail t2 r h;exact vcr 1 1190 [] (hx 0x1010d111010fd550040ed0c0fe1c0ee0a0fe0779e30130f20f0bd000cd0112f0ad0f18e09d1718e08d110942e11f221110107d201770e43f70e30f70e06d0714e400100614e10075ce1f04d0f32311e0905e14f0618e041010116f05d1f10130021f03d0001d10012f02d000d) [(71, .bool false),(0, .str r 0),oF] [] (λ_ _ _ _=>hostVq [⟨#[110]⟩,⟨#[105]⟩,⟨#[110]⟩,⟨#[110]⟩,⟨#[105]⟩] tail r) (λa N t0 gN=>[t0+103]) B0 (λ_ _ _ _=>h.vq)
 ·intro t k0 k1 k2 k3 k4 k5 k6 lv tail t2 r h;exact vcr 1 1194 [] (hx 0x1010d111010fd550040ed1a1de0f0fe0a0ee0664e30130f20f0bd000cd0112f0ad0f18e09d1718e08d110942e11f221110107d201770e43f70e30f70e06d0714e400100614e10075ce1f04d0f32311e0905e14f0618e041010116f05d1f10130021f03d0001d10012f02d000d) [(72, .bool false),(0, .str r 0),oF] [] (λ_ _ _ _=>hostVq [⟨#[110]⟩,⟨#[110]⟩,⟨#[105]⟩,⟨#[110]⟩,⟨#[105]⟩] tail r) (λa N t0 gN=>[t0+105]) B0 (λ_ _ _ _=>h.vq)
 ·intro t k0 k1 k2 k3 k4 k5 k6 lv tail t2 r h;exact vcr 1 1548 [] (hx 0x1011d1110110d550040fd1a1de0f0fe0a0ee0665e30130f20f0cd0f0dd0112f0bd0f18e0ad1718e09d110942e11f221110108d206770e07d1f70e43f70e30f70e06d0714e400100614e10075ce1f04d0f32311e0905e14f0618e041010116f05d1f10130021f03d0001d10012f02d000d) [(99, .bool false),(0, .str r 0),oF] [] (λ_ _ _ _=>hostVq [⟨#[105]⟩,⟨#[110]⟩,⟨#[105]⟩,⟨#[110]⟩,⟨#[105]⟩] tail r) (λa N t0 gN=>[t0+139]) B0 (λ_ _ _ _=>h.vq)
 ·intro t k0 k1 k2 k3 k4 k5 k6 lv tail t2 r h;exact vcr 1 809 [] (hx 0x100ed111010dd550040cd0c0fe340ee064ce30130f20f09d000ad0112f08d0f18e07d110942e11f221110106d20f100614e10075ce1f04d0f32311e0905e14f0618e041010116f05d1f10130021f03d0001d10012f02d000d) [(43, .bool false),(0, .str r 0),oF] [] (λ_ _ _ _=>hostVq [⟨#[110]⟩,⟨#[110]⟩,⟨#[110]⟩,⟨#[110]⟩,⟨#[110]⟩,⟨#[105]⟩] tail r) (λa N t0 gN=>[t0+69]) B0 (λ_ _ _ _=>h.vq)
 ·intro t k0 k1 k2 k3 k4 k5 k6 lv tail t2 r h;exact vcr 1 1163 [] (hx 0x100fd111010ed550040dd0c0fe340ee064de30130f20f0ad0f0bd0112f09d0f18e08d110942e11f221110107d201770e43f70e30f70e06d0714e400100614e10075ce1f04d0f32311e0905e14f0618e041010116f05d1f10130021f03d0001d10012f02d000d) [(70, .bool false),(0, .str r 0),oF] [] (λ_ _ _ _=>hostVq [⟨#[105]⟩,⟨#[110]⟩,⟨#[110]⟩,⟨#[110]⟩,⟨#[110]⟩,⟨#[105]⟩] tail r) (λa N t0 gN=>[t0+103]) B0 (λ_ _ _ _=>h.vq)
 ·intro t k0 k1 k2 k3 k4 k5 k6 lv tail t2 r h;exact vcr 1 1163 [] (hx 0x100fd111010ed550040dd0c0fe2a0ee0a0fe0761e30130f20f0ad000bd0112f09d0f18e08d110942e11f221110107d201770e43f70e30f70e06d0714e400100614e10075ce1f04d0f32311e0905e14f0618e041010116f05d1f10130021f03d0001d10012f02d000d) [(70, .bool false),(0, .str r 0),oF] [] (λ_ _ _ _=>hostVq [⟨#[110]⟩,⟨#[105]⟩,⟨#[110]⟩,⟨#[110]⟩,⟨#[110]⟩,⟨#[105]⟩] tail r) (λa N t0 gN=>[t0+103]) B0 (λ_ _ _ _=>h.vq)
theorem qbx {t k0 k1 k2 k3:U1} {lv:Nat} {tail:U2} {t2:U1} {r:U2}:VC w 1 (hostC 0 t [1,3,7,17] [k0,k1,k2,k3] lv tail t2 tail):=by
 refine qu 1 λads hl hok => ?_
 obtain ⟨a0,rfl⟩:=qbA hl
 exact (C2 (qle t k0 k1 k2 k3 lv tail t2 tail a0) B0 (λ_ _ _ _ _ h=>nomatch h))
noncomputable def hV2 (w:T3) (n:Nat) (labs:List U2):Prop:=∀{t k0 k1 k2 k3:U1} {lv:Nat} {tail:U2} {t2:U1} {r:U2},vk labs tail r→VC w 1 (hostC n t [1,3,7,17] [k0,k1,k2,k3] lv tail t2 r)
noncomputable def hintsTwice11:List Nat:=hx 0x1010d111010fd550040ed0130f20f0bd0f0cd0112f0ad0f18e09d1718e08d1718e07d110942e11f221110106d20f100614e10075ce1f04d0f32311e0905e14f0618e041010116f05d1f10130021f03d0001d10012f02d000d
noncomputable def hintsTwice12:List Nat:=hx 0x1011d1110110d550040fd0130f20f0cd0f0dd0112f0bd0f18e0ad1718e09d1718e08d110942e11f221110107d201770e43f70e30f70e06d0714e400100614e10075ce1f04d0f32311e0905e14f0618e041010116f05d1f10130021f03d0001d10012f02d000d
noncomputable def hintsTwice13:List Nat:=hx 0x100fd111010ed550040dd070fe0779e30130f20f0ad000bd0112f09d0f18e08d1718e07d110942e11f221110106d20f100614e10074be1f04d0f31211e0905e14f0618e041010116f05d1f10130021f03d0001d10012f02d000d
noncomputable def hintsTwice14:List Nat:=hx 0x1010d111010fd550040ed070fe077ae30130f20f0bd0f0cd0112f0ad0f18e09d1718e08d110942e11f221110107d201770e41570e2a5fe30f5fe06d0714e400100614e10074be1f04d0f31211e0905e14f0618e041010116f05d1f10130021f03d0001d10012f02d000d
noncomputable def hintsTwice15:List Nat:=hx 0x1011d1110110d550040fd070fe077ae30130f20f0cd0f0dd0112f0bd0f18e0ad1718e09d110942e11f221110108d206770e07d1f70e41570e2a5fe30f5fe06d0714e400100614e10074be1f04d0f31211e0905e14f0618e041010116f05d1f10130021f03d0001d10012f02d000d
noncomputable def hintsTwice16:List Nat:=hx 0x1010d111010fd550040ed070fe0779e30130f20f0bd000cd0112f0ad0f18e09d1718e08d110942e11f221110107d20175fe42e5fe30f5fe06d0714e400100614e10074be1f04d0f31211e0905e14f0618e041010116f05d1f10130021f03d0001d10012f02d000d
noncomputable def hintsTwice17:List Nat:=hx 0x100ed111010dd550040cd0c0fe0a0ee064ce30130f20f09d000ad0112f08d0f18e07d110942e11f221110106d20f100614e10074be1f04d0f31211e0905e14f0618e041010116f05d1f10130021f03d0001d10012f02d000d
noncomputable def hintsTwice18:List Nat:=hx 0x100fd111010ed550040dd0c0fe0a0ee064de30130f20f0ad0f0bd0112f09d0f18e08d110942e11f221110107d201770e41570e2a5fe30f5fe06d0714e400100614e10074be1f04d0f31211e0905e14f0618e041010116f05d1f10130021f03d0001d10012f02d000d
theorem qN:hV2 w 1 [⟨#[105]⟩]∧hV2 w 2 [⟨#[105,105]⟩]∧hV2 w 3 [⟨#[110]⟩,⟨#[105]⟩]∧hV2 w 4 [⟨#[105]⟩,⟨#[105]⟩]∧hV2 w 5 [⟨#[105,105]⟩,⟨#[105]⟩]∧hV2 w 6 [⟨#[110]⟩,⟨#[105,105]⟩]∧hV2 w 7 [⟨#[110]⟩,⟨#[110]⟩,⟨#[105]⟩]∧hV2 w 8 [⟨#[105]⟩,⟨#[110]⟩,⟨#[105]⟩]:=by
 refine ⟨?_,?_,?_,?_,?_,?_,?_,?_⟩
 ·intro t k0 k1 k2 k3 lv tail t2 r h;exact vcr 1 763 [] hintsTwice11 [(41, .bool false),(0, .str r 0),oF] [] (λ_ _ _ _=>hostVq [⟨#[105]⟩] tail r) (λa N t0 gN=>[t0+58]) B0 (λ_ _ _ _=>h.vq)
 ·intro t k0 k1 k2 k3 lv tail t2 r h;exact vcr 1 1104 [] hintsTwice12 [(67, .bool false),(0, .str r 0),oF] [] (λ_ _ _ _=>hostVq [⟨#[105,105]⟩] tail r) (λa N t0 gN=>[t0+93]) B0 (λ_ _ _ _=>h.vq)
 ·intro t k0 k1 k2 k3 lv tail t2 r h;exact vcr 1 681 [] hintsTwice13 [(35, .bool false),(0, .str r 0),oF] [] (λ_ _ _ _=>hostVq [⟨#[110]⟩,⟨#[105]⟩] tail r) (λa N t0 gN=>[t0+53]) B0 (λ_ _ _ _=>h.vq)
 ·intro t k0 k1 k2 k3 lv tail t2 r h;exact vcr 1 1035 [] hintsTwice14 [(62, .bool false),(0, .str r 0),oF] [] (λ_ _ _ _=>hostVq [⟨#[105]⟩,⟨#[105]⟩] tail r) (λa N t0 gN=>[t0+87]) B0 (λ_ _ _ _=>h.vq)
 ·intro t k0 k1 k2 k3 lv tail t2 r h;exact vcr 1 1376 [] hintsTwice15 [(88, .bool false),(0, .str r 0),oF] [] (λ_ _ _ _=>hostVq [⟨#[105,105]⟩,⟨#[105]⟩] tail r) (λa N t0 gN=>[t0+122]) B0 (λ_ _ _ _=>h.vq)
 ·intro t k0 k1 k2 k3 lv tail t2 r h;exact vcr 1 967 [] hintsTwice16 [(56, .bool false),(0, .str r 0),oF] [] (λ_ _ _ _=>hostVq [⟨#[110]⟩,⟨#[105,105]⟩] tail r) (λa N t0 gN=>[t0+83]) B0 (λ_ _ _ _=>h.vq)
 ·intro t k0 k1 k2 k3 lv tail t2 r h;exact vcr 1 654 [] hintsTwice17 [(34, .bool false),(0, .str r 0),oF] [] (λ_ _ _ _=>hostVq [⟨#[110]⟩,⟨#[110]⟩,⟨#[105]⟩] tail r) (λa N t0 gN=>[t0+53]) B0 (λ_ _ _ _=>h.vq)
 ·intro t k0 k1 k2 k3 lv tail t2 r h;exact vcr 1 1008 [] hintsTwice18 [(61, .bool false),(0, .str r 0),oF] [] (λ_ _ _ _=>hostVq [⟨#[105]⟩,⟨#[110]⟩,⟨#[105]⟩] tail r) (λa N t0 gN=>[t0+87]) B0 (λ_ _ _ _=>h.vq)
noncomputable def hintsTwice19:List Nat:=hx 0x1010d111010fd550040ed0c0fe0a0ee064de30130f20f0bd0f0cd0112f0ad0f18e09d110942e11f221110108d206770e07d1f70e41570e2a5fe30f5fe06d0714e400100614e10074be1f04d0f31211e0905e14f0618e041010116f05d1f10130021f03d0001d10012f02d000d
theorem qW:hV2 w 9 [⟨#[105,105]⟩,⟨#[110]⟩,⟨#[105]⟩]∧hV2 w 10 [⟨#[110]⟩,⟨#[105]⟩,⟨#[105]⟩]∧hV2 w 11 [⟨#[105]⟩,⟨#[105]⟩,⟨#[105]⟩]∧hV2 w 12 [⟨#[105,105]⟩,⟨#[105]⟩,⟨#[105]⟩]∧hV2 w 13 [⟨#[110]⟩,⟨#[105,105]⟩,⟨#[105]⟩]∧hV2 w 14 [⟨#[110]⟩,⟨#[110]⟩,⟨#[105,105]⟩]∧hV2 w 15 [⟨#[105]⟩,⟨#[110]⟩,⟨#[105,105]⟩]:=by
 refine ⟨?_,?_,?_,?_,?_,?_,?_⟩
 ·intro t k0 k1 k2 k3 lv tail t2 r h;exact vcr 1 1349 [] hintsTwice19 [(87, .bool false),(0, .str r 0),oF] [] (λ_ _ _ _=>hostVq [⟨#[105,105]⟩,⟨#[110]⟩,⟨#[105]⟩] tail r) (λa N t0 gN=>[t0+122]) B0 (λ_ _ _ _=>h.vq)
 ·intro t k0 k1 k2 k3 lv tail t2 r h;exact vcr 1 953 [] (hx 0x100fd111010ed550040dd160fe0761e30130f20f0ad000bd0112f09d0f18e08d110942e11f221110107d20175fe42e5fe30f5fe06d0714e400100614e10074be1f04d0f31211e0905e14f0618e041010116f05d1f10130021f03d0001d10012f02d000d) [(56, .bool false),(0, .str r 0),oF] [] (λ_ _ _ _=>hostVq [⟨#[110]⟩,⟨#[105]⟩,⟨#[105]⟩] tail r) (λa N t0 gN=>[t0+82]) B0 (λ_ _ _ _=>h.vq)
 ·intro t k0 k1 k2 k3 lv tail t2 r h;exact vcr 1 1307 [] (hx 0x1010d111010fd550040ed160fe0762e30130f20f0bd0f0cd0112f0ad0f18e09d110942e11f221110108d202d70e3a5fe07d1f5fe42e5fe30f5fe06d0714e400100614e10074be1f04d0f31211e0905e14f0618e041010116f05d1f10130021f03d0001d10012f02d000d) [(83, .bool false),(0, .str r 0),oF] [] (λ_ _ _ _=>hostVq [⟨#[105]⟩,⟨#[105]⟩,⟨#[105]⟩] tail r) (λa N t0 gN=>[t0+116]) B0 (λ_ _ _ _=>h.vq)
 ·intro t k0 k1 k2 k3 lv tail t2 r h;exact vcr 1 1648 [] (hx 0x1011d1110110d550040fd160fe0762e30130f20f0cd0f0dd0112f0bd0f18e0ad110942e11f221110109d206770e08d3570e3a5fe07d1f5fe42e5fe30f5fe06d0714e400100614e10074be1f04d0f31211e0905e14f0618e041010116f05d1f10130021f03d0001d10012f02d000d) [(109, .bool false),(0, .str r 0),oF] [] (λ_ _ _ _=>hostVq [⟨#[105,105]⟩,⟨#[105]⟩,⟨#[105]⟩] tail r) (λa N t0 gN=>[t0+151]) B0 (λ_ _ _ _=>h.vq)
 ·intro t k0 k1 k2 k3 lv tail t2 r h;exact vcr 1 1239 [] (hx 0x1010d111010fd550040ed160fe0761e30130f20f0bd000cd0112f0ad0f18e09d110942e11f221110108d20565fe07d1f5fe42e5fe30f5fe06d0714e400100614e10074be1f04d0f31211e0905e14f0618e041010116f05d1f10130021f03d0001d10012f02d000d) [(77, .bool false),(0, .str r 0),oF] [] (λ_ _ _ _=>hostVq [⟨#[110]⟩,⟨#[105,105]⟩,⟨#[105]⟩] tail r) (λa N t0 gN=>[t0+112]) B0 (λ_ _ _ _=>h.vq)
 ·intro t k0 k1 k2 k3 lv tail t2 r h;exact vcr 1 940 [] (hx 0x100fd111010ed550040dd0c0fe0a0ee064ce30130f20f0ad000bd0112f09d0f18e08d110942e11f221110107d20175fe42e5fe30f5fe06d0714e400100614e10074be1f04d0f31211e0905e14f0618e041010116f05d1f10130021f03d0001d10012f02d000d) [(55, .bool false),(0, .str r 0),oF] [] (λ_ _ _ _=>hostVq [⟨#[110]⟩,⟨#[110]⟩,⟨#[105,105]⟩] tail r) (λa N t0 gN=>[t0+83]) B0 (λ_ _ _ _=>h.vq)
 ·intro t k0 k1 k2 k3 lv tail t2 r h;exact vcr 1 1294 [] (hx 0x1010d111010fd550040ed0c0fe0a0ee064de30130f20f0bd0f0cd0112f0ad0f18e09d110942e11f221110108d202d70e3a5fe07d1f5fe42e5fe30f5fe06d0714e400100614e10074be1f04d0f31211e0905e14f0618e041010116f05d1f10130021f03d0001d10012f02d000d) [(82, .bool false),(0, .str r 0),oF] [] (λ_ _ _ _=>hostVq [⟨#[105]⟩,⟨#[110]⟩,⟨#[105,105]⟩] tail r) (λa N t0 gN=>[t0+117]) B0 (λ_ _ _ _=>h.vq)
theorem qbw {t k0 k1 k2 k3:U1} {lv:Nat} {tail:U2} {t2:U1} {r:U2}:VC w 1 (hostC 0 t [1,4,13,43] [k0,k1,k2,k3] lv tail t2 tail):=by
 refine qu 1 λads hl hok => ?_
 obtain ⟨a0,rfl⟩:=qbA hl
 exact (C2 (qld t k0 k1 k2 k3 lv tail t2 tail a0) B0 (λ_ _ _ _ _ h=>nomatch h))
noncomputable def hV3 (w:T3) (n:Nat) (labs:List U2):Prop:=∀{t k0 k1 k2 k3:U1} {lv:Nat} {tail:U2} {t2:U1} {r:U2},vk labs tail r→VC w 1 (hostC n t [1,4,13,43] [k0,k1,k2,k3] lv tail t2 r)
theorem qM:hV3 w 1 [⟨#[105]⟩]∧hV3 w 2 [⟨#[105,105]⟩]∧hV3 w 3 [⟨#[105,105,105]⟩]∧hV3 w 4 [⟨#[110]⟩,⟨#[105]⟩]∧hV3 w 5 [⟨#[105]⟩,⟨#[105]⟩]∧hV3 w 6 [⟨#[105,105]⟩,⟨#[105]⟩]∧hV3 w 7 [⟨#[105,105,105]⟩,⟨#[105]⟩]∧hV3 w 8 [⟨#[110]⟩,⟨#[105,105]⟩]:=by
 refine ⟨?_,?_,?_,?_,?_,?_,?_,?_⟩
 ·intro t k0 k1 k2 k3 lv tail t2 r h;exact vcr 1 763 [] hintsTwice11 [(41, .bool false),(0, .str r 0),oF] [] (λ_ _ _ _=>hostVq [⟨#[105]⟩] tail r) (λa N t0 gN=>[t0+58]) B0 (λ_ _ _ _=>h.vq)
 ·intro t k0 k1 k2 k3 lv tail t2 r h;exact vcr 1 1104 [] hintsTwice12 [(67, .bool false),(0, .str r 0),oF] [] (λ_ _ _ _=>hostVq [⟨#[105,105]⟩] tail r) (λa N t0 gN=>[t0+93]) B0 (λ_ _ _ _=>h.vq)
 ·intro t k0 k1 k2 k3 lv tail t2 r h;exact vcr 1 1445 [] (hx 0x1012d1110111d5500410d0130f20f0dd0f0ed0112f0cd0f18e0bd1718e0ad1718e09d110942e11f221110108d206770e07d1f70e43f70e30f70e06d0714e400100614e10075ce1f04d0f32311e0905e14f0618e041010116f05d1f10130021f03d0001d10012f02d000d) [(93, .bool false),(0, .str r 0),oF] [] (λ_ _ _ _=>hostVq [⟨#[105,105,105]⟩] tail r) (λa N t0 gN=>[t0+127]) B0 (λ_ _ _ _=>h.vq)
 ·intro t k0 k1 k2 k3 lv tail t2 r h;exact vcr 1 681 [] hintsTwice13 [(35, .bool false),(0, .str r 0),oF] [] (λ_ _ _ _=>hostVq [⟨#[110]⟩,⟨#[105]⟩] tail r) (λa N t0 gN=>[t0+53]) B0 (λ_ _ _ _=>h.vq)
 ·intro t k0 k1 k2 k3 lv tail t2 r h;exact vcr 1 1035 [] hintsTwice14 [(62, .bool false),(0, .str r 0),oF] [] (λ_ _ _ _=>hostVq [⟨#[105]⟩,⟨#[105]⟩] tail r) (λa N t0 gN=>[t0+87]) B0 (λ_ _ _ _=>h.vq)
 ·intro t k0 k1 k2 k3 lv tail t2 r h;exact vcr 1 1376 [] hintsTwice15 [(88, .bool false),(0, .str r 0),oF] [] (λ_ _ _ _=>hostVq [⟨#[105,105]⟩,⟨#[105]⟩] tail r) (λa N t0 gN=>[t0+122]) B0 (λ_ _ _ _=>h.vq)
 ·intro t k0 k1 k2 k3 lv tail t2 r h;exact vcr 1 1717 [] (hx 0x1012d1110111d5500410d070fe077ae30130f20f0dd0f0ed0112f0cd0f18e0bd1718e0ad110942e11f221110109d206770e08d6f70e07d1f70e41570e2a5fe30f5fe06d0714e400100614e10074be1f04d0f31211e0905e14f0618e041010116f05d1f10130021f03d0001d10012f02d000d) [(114, .bool false),(0, .str r 0),oF] [] (λ_ _ _ _=>hostVq [⟨#[105,105,105]⟩,⟨#[105]⟩] tail r) (λa N t0 gN=>[t0+156]) B0 (λ_ _ _ _=>h.vq)
 ·intro t k0 k1 k2 k3 lv tail t2 r h;exact vcr 1 967 [] hintsTwice16 [(56, .bool false),(0, .str r 0),oF] [] (λ_ _ _ _=>hostVq [⟨#[110]⟩,⟨#[105,105]⟩] tail r) (λa N t0 gN=>[t0+83]) B0 (λ_ _ _ _=>h.vq)
theorem qV:hV3 w 9 [⟨#[105]⟩,⟨#[105,105]⟩]∧hV3 w 10 [⟨#[105,105]⟩,⟨#[105,105]⟩]∧hV3 w 11 [⟨#[105,105,105]⟩,⟨#[105,105]⟩]∧hV3 w 12 [⟨#[110]⟩,⟨#[105,105,105]⟩]∧hV3 w 13 [⟨#[110]⟩,⟨#[110]⟩,⟨#[105]⟩]∧hV3 w 14 [⟨#[105]⟩,⟨#[110]⟩,⟨#[105]⟩]∧hV3 w 15 [⟨#[105,105]⟩,⟨#[110]⟩,⟨#[105]⟩]:=by
 refine ⟨?_,?_,?_,?_,?_,?_,?_⟩
 ·intro t k0 k1 k2 k3 lv tail t2 r h;exact vcr 1 1321 [] (hx 0x1011d1110110d550040fd070fe077ae30130f20f0cd0f0dd0112f0bd0f18e0ad1718e09d110942e11f221110108d202d70e3a5fe07d1f5fe42e5fe30f5fe06d0714e400100614e10074be1f04d0f31211e0905e14f0618e041010116f05d1f10130021f03d0001d10012f02d000d) [(83, .bool false),(0, .str r 0),oF] [] (λ_ _ _ _=>hostVq [⟨#[105]⟩,⟨#[105,105]⟩] tail r) (λa N t0 gN=>[t0+117]) B0 (λ_ _ _ _=>h.vq)
 ·intro t k0 k1 k2 k3 lv tail t2 r h;exact vcr 1 1662 [] (hx 0x1012d1110111d5500410d070fe077ae30130f20f0dd0f0ed0112f0cd0f18e0bd1718e0ad110942e11f221110109d206770e08d3570e3a5fe07d1f5fe42e5fe30f5fe06d0714e400100614e10074be1f04d0f31211e0905e14f0618e041010116f05d1f10130021f03d0001d10012f02d000d) [(109, .bool false),(0, .str r 0),oF] [] (λ_ _ _ _=>hostVq [⟨#[105,105]⟩,⟨#[105,105]⟩] tail r) (λa N t0 gN=>[t0+152]) B0 (λ_ _ _ _=>h.vq)
 ·intro t k0 k1 k2 k3 lv tail t2 r h;exact vcr 1 2003 [] (hx 0x1013d1110112d5500411d070fe077ae30130f20f0ed0f0fd0112f0dd0f18e0cd1718e0bd110942e11f22111010ad206770e09d6f70e08d3570e3a5fe07d1f5fe42e5fe30f5fe06d0714e400100614e10074be1f04d0f31211e0905e14f0618e041010116f05d1f10130021f03d0001d10012f02d000d) [(135, .bool false),(0, .str r 0),oF] [] (λ_ _ _ _=>hostVq [⟨#[105,105,105]⟩,⟨#[105,105]⟩] tail r) (λa N t0 gN=>[t0+186]) B0 (λ_ _ _ _=>h.vq)
 ·intro t k0 k1 k2 k3 lv tail t2 r h;exact vcr 1 1253 [] (hx 0x1011d1110110d550040fd070fe0779e30130f20f0cd000dd0112f0bd0f18e0ad1718e09d110942e11f221110108d20565fe07d1f5fe42e5fe30f5fe06d0714e400100614e10074be1f04d0f31211e0905e14f0618e041010116f05d1f10130021f03d0001d10012f02d000d) [(77, .bool false),(0, .str r 0),oF] [] (λ_ _ _ _=>hostVq [⟨#[110]⟩,⟨#[105,105,105]⟩] tail r) (λa N t0 gN=>[t0+112]) B0 (λ_ _ _ _=>h.vq)
 ·intro t k0 k1 k2 k3 lv tail t2 r h;exact vcr 1 654 [] hintsTwice17 [(34, .bool false),(0, .str r 0),oF] [] (λ_ _ _ _=>hostVq [⟨#[110]⟩,⟨#[110]⟩,⟨#[105]⟩] tail r) (λa N t0 gN=>[t0+53]) B0 (λ_ _ _ _=>h.vq)
 ·intro t k0 k1 k2 k3 lv tail t2 r h;exact vcr 1 1008 [] hintsTwice18 [(61, .bool false),(0, .str r 0),oF] [] (λ_ _ _ _=>hostVq [⟨#[105]⟩,⟨#[110]⟩,⟨#[105]⟩] tail r) (λa N t0 gN=>[t0+87]) B0 (λ_ _ _ _=>h.vq)
 ·intro t k0 k1 k2 k3 lv tail t2 r h;exact vcr 1 1349 [] hintsTwice19 [(87, .bool false),(0, .str r 0),oF] [] (λ_ _ _ _=>hostVq [⟨#[105,105]⟩,⟨#[110]⟩,⟨#[105]⟩] tail r) (λa N t0 gN=>[t0+122]) B0 (λ_ _ _ _=>h.vq)
theorem qoH {name:U2} {t u:U1} {m:Nat} {ss ex:List U2} (h:zo name m (ss++ex)) (hl:ss.length≤6) (he:ex.length≤1):VC w 2 (endsX name t ss.length u ss):=by
 have e2:∀{P:List U2→Prop} {Q:Prop},(P []→Q)→(∀x,P [x]→Q)→P ex→Q:=λ{P Q} f g hp=>by
  cases ex with
  | nil=>exact f hp
  | cons x xs=>cases xs with
   | nil=>exact g x hp
   | cons y ys=>exact absurd he (by show ¬(_+1+1≤1);lia)
 cases ss with
 | nil=>exact e2 (P:=λex=>zo name m (_++ex)) (λh=>qok h) (λx h=>qoj h) h
 | cons s1 ss =>
  cases ss with
  | nil=>exact e2 (P:=λex=>zo name m (_++ex)) (λh=>qoi h) (λx h=>qoh h) h
  | cons s2 ss =>
   cases ss with
   | nil=>exact e2 (P:=λex=>zo name m (_++ex)) (λh=>qog h) (λx h=>qof h) h
   | cons s3 ss =>
    cases ss with
    | nil=>exact e2 (P:=λex=>zo name m (_++ex)) (λh=>qoe h) (λx h=>qod h) h
    | cons s4 ss =>
     cases ss with
     | nil=>exact e2 (P:=λex=>zo name m (_++ex)) (λh=>qoc h) (λx h=>qob h) h
     | cons s5 ss =>
      cases ss with
      | nil=>exact e2 (P:=λex=>zo name m (_++ex)) (λh=>qoa h) (λx h=>qn9 h) h
      | cons s6 ss =>
       cases ss with
       | nil=>exact e2 (P:=λex=>zo name m (_++ex)) (λh=>qn8 h) (λx h=>qn7 h) h
       | cons _ _=>exact absurd hl (by show ¬(_+1+1+1+1+1+1+1≤6);lia)
noncomputable def eqN:List Nat→List Nat→Bool
 | [],l=>l.isEmpty
 | a::l,m=>match m with
  | []=>false
  | b::m=>J3 a b&&eqN l m
theorem qj0:∀{l m:List Nat},eqN l m=true→l=m
 | [],[],_=>rfl
 | [],_::_,h=>nomatch h
 | _::_,[],h=>nomatch h
 | a::l,b::m,h=>by
  have z:=M0.mp (show (J3 a b&&eqN l m)=true from h)
  rw [J9 z.1,qj0 z.2]
noncomputable def qh3:List U2→List U2→Bool
 | [],m=>m.isEmpty
 | a::l,m=>match m with
  | []=>false
  | b::m=>eqN a.cps.toList b.cps.toList&&qh3 l m
theorem qgA:∀{l m:List U2},qh3 l m=true→l=m
 | [],[],_=>rfl
 | [],_::_,h=>nomatch h
 | _::_,[],h=>nomatch h
 | ⟨⟨a⟩⟩::l,⟨⟨b⟩⟩::m,h=>by
  have z:=M0.mp (show (eqN a b&&qh3 l m)=true from h)
  rw [qj0 z.1,qgA z.2]
noncomputable def qhq (l:Nat) (name:U2) (ss ex:List U2):Bool:=zF name ss&&(decide (ss.length=l∧l≤6∧ex.length≤1∧1≤name.length∧name.length≤900)&&(qG name (kPs 0)&&(vg name 1 (name.length-1)&&qh3 (zr name 1 (name.length-1)) (ss++ex))))
theorem qi5 {hs lad:List T1} {r:Int} {name:U2} {tn:U1} {l:Nat} {ss ex:List U2} (h:qhq l name ss ex=true) (h0:0≤r) (h1:r≤15) (hat:hs[r.toNat]? = some (.str name tn)) (hl:(lad.filter (ladF r)).length=l) (li:qH lad) (ll:lad.length≤900) (lne:lad.isEmpty=false):RoomOk w hs lad r name tn ss:=by
 simp only [qhq,J8,decide_eq_true_eq] at h
 obtain ⟨a1,⟨a2,a3,a4,a5,a6⟩,a7,a8,a9⟩:=h
 refine ⟨h0,by lia,hat,by lia,a1,λt u => ?_,li,ll,lne⟩
 rw [hl]
 have z:=qoH (w:=w) (t:=t) (u:=u) (ss:=ss) (ex:=ex) (m:=name.length-1) ⟨by lia,by lia,a7,a8,qgA a9⟩ (by lia) a4
 rw [a2] at z
 exact z
noncomputable def qhM (lad:List Int) (r:Nat):Nat:=(lad.filter λi=>decide (i≤(r:Int))).length
theorem qns {lad:List Int} {us:List U1} {r:Nat}:us.length=lad.length→((ladT lad us).filter (ladF (r:Int))).length=qhM lad r:=by
 unfold qhM
 induction lad generalizing us with
 | nil=>intro _;rfl
 | cons i lad ih =>
  intro h
  match us,h with
  | u::us,h =>
   have q:=ih (us:=us) (G6.inj h)
   show ((Value.int i u::ladT lad us).filter (ladF (r:Int))).length=((i::lad).filter λi=>decide (i≤(r:Int))).length
   rw [K8,K8]
   have e:ladF (r:Int) (.int i u)=decide (i≤(r:Int)):=rfl
   rw [e]
   cases decide (i≤(r:Int))
   ·exact q
   ·exact congrArg G6 q
theorem qf5:∀{hs:List U2} {ts:List U1} {k:Nat} {x:U2},ts.length=hs.length→hs[k]? = some x→∃t,(strsT hs ts)[k]? = some (.str x t)
 | [],_,_,_,_,h=>nomatch h
 | _::_,[],_,_,e,_=>nomatch e
 | y::hs,t::ts,0,x,_,h=>⟨t,by cases h;rfl⟩
 | y::hs,t::ts,k+1,x,e,h=>qf5 (hs:=hs) (ts:=ts) (k:=k) (G6.inj e) h
noncomputable def wB (lad:List Int) (tb:List (U2×List U2)) (ex:List U2):Bool:=(G8 16).all λk=>match tb[k]? with
 | some x=>match x with
  | (n,ss)=>qhq (qhM lad k) n ss ex
 | none=>false
theorem jU {lad:List Int} {hs:List U2} {tb:List (U2×List U2)} {ex:List U2} (h:wB lad tb ex=true) (ht:tb.map (·.1)=hs) (hl:hs.length=16) (ll:lad.length≤900) (lne:lad≠[]):∀(r:Int),0≤r→r≤15→∀ts:List U1,ts.length=16→∀us:List U1,us.length=lad.length→∃name tn ss,RoomOk w (strsT hs ts) (ladT lad us) r name tn ss:=by
 intro r h0 h1 ts ht' us hu
 obtain ⟨k,rfl⟩:=J5 h0
 have hk:k<16:=by lia
 have z:=O7.mp h k (P6.mpr hk)
 cases hx:tb[k]? with
 | none=>rw [hx] at z;cases z
 | some x =>
  rw [hx] at z
  replace z:qhq (qhM lad k) x.1 x.2 ex=true:=z
  have hx':hs[k]? = some x.1:=by rw [←ht,List.getElem?_map,hx];rfl
  obtain ⟨t,e⟩:=qf5 (ts:=ts) (by lia) hx'
  have hlen:(ladT lad us).length=lad.length:=by
   have:=congrArg List.length (uo lad us hu)
   rwa [G3] at this
  refine ⟨x.1,t,_,qi5 z h0 h1 e (qns hu) (vv _ _) (by lia) ?_⟩
  cases hq:ladT lad us with
  | nil =>
   rw [hq] at hlen
   exact absurd (O9.mp hlen.symm) lne
  | cons=>rfl
noncomputable def qak:List Int:=[0,18,33,53,83,71,116,106,166,141,216,159,249]
theorem qpf:wB [1,2,3,5,8,13,21] [(ji,[]),(s10_1,[ji]),(s10_2,[s10_1,ji]),(s10_3,[s10_2,s10_1,ji]),(qaO,[s10_2,s10_1,ji]),(s10_5,[s10_3,s10_2,s10_1,ji]),(qdC,[s10_3,s10_2,s10_1,ji]),(vo,[qaO,s10_2,s10_1,ji]),(ud,[s10_5,s10_3,s10_2,s10_1,ji]),(qdB,[s10_5,s10_3,s10_2,s10_1,ji]),(qac,[qdC,s10_3,s10_2,s10_1,ji]),(qbS,[vo,qaO,s10_2,s10_1,ji]),(qeu,[vo,qaO,s10_2,s10_1,ji]),(qab,[ud,s10_5,s10_3,s10_2,s10_1,ji]),(qet,[ud,s10_5,s10_3,s10_2,s10_1,ji]),(w6,[qdB,s10_5,s10_3,s10_2,s10_1,ji])] []=true:=by kernel_rfl
theorem qo1:w6++qP=qhz:=by kernel_rfl
theorem qqG {S1 q:Int} (hq:F6 S1 3=q) (hx:E9 q 3=0):z9 w [1,2,3,5,8,13,21] [ji,s10_1,s10_2,s10_3,qaO,s10_5,qdC,vo,ud,qdB,qac,qbS,qeu,qab,qet,w6] w6 qak S1 where
 hosts:=λc os=>qcF hq hx (λ_ _=>qby (r:=⟨#[]⟩)) (λ_ _=>qO.1 .au) (λ_ _=>qO.2.1 .au) (λ_ _=>qO.2.2.1 .au) (λ_ _=>qO.2.2.2.1 .au) (λ_ _=>qO.2.2.2.2.1 .au) (λ_ _=>qO.2.2.2.2.2.1 .au) (λ_ _=>qO.2.2.2.2.2.2.1 .au) (λ_ _=>qO.2.2.2.2.2.2.2 .au) (λ_ _=>qX.1 .au) (λ_ _=>qX.2.1 .au) (λ_ _=>qX.2.2.1 .au) (λ_ _=>qX.2.2.2.1 .au) (λ_ _=>qX.2.2.2.2.1 .au) (λ_ _=>qX.2.2.2.2.2.1 .au) (λ_ _=>qX.2.2.2.2.2.2 .au)
 lost:=λos=>qbu.1
 reach:=λc=>by
  unfold reachAt7
  rw [qo1]
  exact qjf
 add:=by decide +kernel
 rooms:=jU qpf rfl rfl (by decide) (by decide)
theorem qpe:wB [1,2,3,5,8,13,21] [(jh,[]),(s11_1,[jh]),(s11_2,[s11_1,jh]),(s11_3,[s11_2,s11_1,jh]),(qaN,[s11_2,s11_1,jh]),(s11_5,[s11_3,s11_2,s11_1,jh]),(qdA,[s11_3,s11_2,s11_1,jh]),(vn,[qaN,s11_2,s11_1,jh]),(uc,[s11_5,s11_3,s11_2,s11_1,jh]),(qdz,[s11_5,s11_3,s11_2,s11_1,jh]),(qaa,[qdA,s11_3,s11_2,s11_1,jh]),(qbQ,[vn,qaN,s11_2,s11_1,jh]),(qer,[vn,qaN,s11_2,s11_1,jh]),(u9,[uc,s11_5,s11_3,s11_2,s11_1,jh]),(qeq,[uc,s11_5,s11_3,s11_2,s11_1,jh]),(w5,[qdz,s11_5,s11_3,s11_2,s11_1,jh])] [⟨#[110,101,116]⟩]=true:=by kernel_rfl
theorem qo0:w5++qP=qhy:=by kernel_rfl
theorem qqF {S1 q:Int} (hq:F6 S1 3=q) (hx:E9 q 3=1):z9 w [1,2,3,5,8,13,21] [jh,s11_1,s11_2,s11_3,qaN,s11_5,qdA,vn,uc,qdz,qaa,qbQ,qer,u9,qeq,w5] w5 qak S1 where
 hosts:=λc os=>qcE hq hx (λ_ _=>qby (r:=⟨#[]⟩)) (λ_ _=>qO.1 .au) (λ_ _=>qO.2.1 .au) (λ_ _=>qO.2.2.1 .au) (λ_ _=>qO.2.2.2.1 .au) (λ_ _=>qO.2.2.2.2.1 .au) (λ_ _=>qO.2.2.2.2.2.1 .au) (λ_ _=>qO.2.2.2.2.2.2.1 .au) (λ_ _=>qO.2.2.2.2.2.2.2 .au) (λ_ _=>qX.1 .au) (λ_ _=>qX.2.1 .au) (λ_ _=>qX.2.2.1 .au) (λ_ _=>qX.2.2.2.1 .au) (λ_ _=>qX.2.2.2.2.1 .au) (λ_ _=>qX.2.2.2.2.2.1 .au) (λ_ _=>qX.2.2.2.2.2.2 .au)
 lost:=λos=>qbu.2.1
 reach:=λc=>by
  unfold reachAt7
  rw [qo0]
  exact qje
 add:=by decide +kernel
 rooms:=jU qpe rfl rfl (by decide) (by decide)
theorem qpd:wB [1,2,3,5,8,13,21] [(jg,[]),(s12_1,[jg]),(s12_2,[s12_1,jg]),(s12_3,[s12_2,s12_1,jg]),(qaM,[s12_2,s12_1,jg]),(s12_5,[s12_3,s12_2,s12_1,jg]),(qdy,[s12_3,s12_2,s12_1,jg]),(vm,[qaM,s12_2,s12_1,jg]),(ub,[s12_5,s12_3,s12_2,s12_1,jg]),(qdx,[s12_5,s12_3,s12_2,s12_1,jg]),(u8,[qdy,s12_3,s12_2,s12_1,jg]),(qbO,[vm,qaM,s12_2,s12_1,jg]),(qeo,[vm,qaM,s12_2,s12_1,jg]),(u7,[ub,s12_5,s12_3,s12_2,s12_1,jg]),(qen,[ub,s12_5,s12_3,s12_2,s12_1,jg]),(w4,[qdx,s12_5,s12_3,s12_2,s12_1,jg])] [⟨#[120,108,111,99,97,108]⟩]=true:=by kernel_rfl
theorem qoZ:w4++qP=qhx:=by kernel_rfl
theorem qqE {S1 q:Int} (hq:F6 S1 3=q) (hx:E9 q 3=2):z9 w [1,2,3,5,8,13,21] [jg,s12_1,s12_2,s12_3,qaM,s12_5,qdy,vm,ub,qdx,u8,qbO,qeo,u7,qen,w4] w4 qak S1 where
 hosts:=λc os=>qcD hq hx (λ_ _=>qby (r:=⟨#[]⟩)) (λ_ _=>qO.1 .au) (λ_ _=>qO.2.1 .au) (λ_ _=>qO.2.2.1 .au) (λ_ _=>qO.2.2.2.1 .au) (λ_ _=>qO.2.2.2.2.1 .au) (λ_ _=>qO.2.2.2.2.2.1 .au) (λ_ _=>qO.2.2.2.2.2.2.1 .au) (λ_ _=>qO.2.2.2.2.2.2.2 .au) (λ_ _=>qX.1 .au) (λ_ _=>qX.2.1 .au) (λ_ _=>qX.2.2.1 .au) (λ_ _=>qX.2.2.2.1 .au) (λ_ _=>qX.2.2.2.2.1 .au) (λ_ _=>qX.2.2.2.2.2.1 .au) (λ_ _=>qX.2.2.2.2.2.2 .au)
 lost:=λos=>qbu.2.2
 reach:=λc=>by
  unfold reachAt7
  rw [qoZ]
  exact qjd
 add:=by decide +kernel
 rooms:=jU qpd rfl rfl (by decide) (by decide)
noncomputable def qaj:List Int:=[0,19,49,38,98,74,164,93,213]
theorem qpc:wB [1,3,7,17] [(jf,[]),(s20_1,[jf]),(qaL,[jf]),(s20_3,[s20_1,jf]),(qaK,[s20_1,jf]),(qdw,[s20_1,jf]),(s20_6,[qaL,jf]),(s20_7,[s20_3,s20_1,jf]),(qg5,[s20_3,s20_1,jf]),(qg4,[s20_3,s20_1,jf]),(u6,[qaK,s20_1,jf]),(qel,[qaK,s20_1,jf]),(qek,[qaK,s20_1,jf]),(u5,[qdw,s20_1,jf]),(qbM,[s20_6,qaL,jf]),(u4,[s20_6,qaL,jf])] []=true:=by kernel_rfl
theorem qoY:u4++qP=qhw:=by kernel_rfl
theorem qqD {S1 q:Int} (hq:F6 S1 3=q) (hx:E9 q 3=0):z9 w [1,3,7,17] [jf,s20_1,qaL,s20_3,qaK,qdw,s20_6,s20_7,qg5,qg4,u6,qel,qek,u5,qbM,u4] u4 qaj S1 where
 hosts:=λc os=>qcF hq hx (λ_ _=>qbx (r:=⟨#[]⟩)) (λ_ _=>qN.1 .au) (λ_ _=>qN.2.1 .au) (λ_ _=>qN.2.2.1 .au) (λ_ _=>qN.2.2.2.1 .au) (λ_ _=>qN.2.2.2.2.1 .au) (λ_ _=>qN.2.2.2.2.2.1 .au) (λ_ _=>qN.2.2.2.2.2.2.1 .au) (λ_ _=>qN.2.2.2.2.2.2.2 .au) (λ_ _=>qW.1 .au) (λ_ _=>qW.2.1 .au) (λ_ _=>qW.2.2.1 .au) (λ_ _=>qW.2.2.2.1 .au) (λ_ _=>qW.2.2.2.2.1 .au) (λ_ _=>qW.2.2.2.2.2.1 .au) (λ_ _=>qW.2.2.2.2.2.2 .au)
 lost:=λos=>qbt.1
 reach:=λc=>by
  unfold reachAt7
  rw [qoY]
  exact qjc
 add:=by decide +kernel
 rooms:=jU qpc rfl rfl (by decide) (by decide)
theorem qpb:wB [1,3,7,17] [(je,[]),(s21_1,[je]),(qaJ,[je]),(s21_3,[s21_1,je]),(qaI,[s21_1,je]),(qdv,[s21_1,je]),(s21_6,[qaJ,je]),(s21_7,[s21_3,s21_1,je]),(qg3,[s21_3,s21_1,je]),(qg2,[s21_3,s21_1,je]),(u2,[qaI,s21_1,je]),(qej,[qaI,s21_1,je]),(qei,[qaI,s21_1,je]),(uZ,[qdv,s21_1,je]),(qbL,[s21_6,qaJ,je]),(uY,[s21_6,qaJ,je])] [⟨#[110,101,116]⟩]=true:=by kernel_rfl
theorem qoX:uY++qP=qhv:=by kernel_rfl
theorem qqC {S1 q:Int} (hq:F6 S1 3=q) (hx:E9 q 3=1):z9 w [1,3,7,17] [je,s21_1,qaJ,s21_3,qaI,qdv,s21_6,s21_7,qg3,qg2,u2,qej,qei,uZ,qbL,uY] uY qaj S1 where
 hosts:=λc os=>qcE hq hx (λ_ _=>qbx (r:=⟨#[]⟩)) (λ_ _=>qN.1 .au) (λ_ _=>qN.2.1 .au) (λ_ _=>qN.2.2.1 .au) (λ_ _=>qN.2.2.2.1 .au) (λ_ _=>qN.2.2.2.2.1 .au) (λ_ _=>qN.2.2.2.2.2.1 .au) (λ_ _=>qN.2.2.2.2.2.2.1 .au) (λ_ _=>qN.2.2.2.2.2.2.2 .au) (λ_ _=>qW.1 .au) (λ_ _=>qW.2.1 .au) (λ_ _=>qW.2.2.1 .au) (λ_ _=>qW.2.2.2.1 .au) (λ_ _=>qW.2.2.2.2.1 .au) (λ_ _=>qW.2.2.2.2.2.1 .au) (λ_ _=>qW.2.2.2.2.2.2 .au)
 lost:=λos=>qbt.2.1
 reach:=λc=>by
  unfold reachAt7
  rw [qoX]
  exact qjb
 add:=by decide +kernel
 rooms:=jU qpb rfl rfl (by decide) (by decide)
theorem qpa:wB [1,3,7,17] [(jd,[]),(s22_1,[jd]),(qaH,[jd]),(s22_3,[s22_1,jd]),(qaG,[s22_1,jd]),(qdu,[s22_1,jd]),(s22_6,[qaH,jd]),(s22_7,[s22_3,s22_1,jd]),(qg1,[s22_3,s22_1,jd]),(qg0,[s22_3,s22_1,jd]),(uX,[qaG,s22_1,jd]),(qeh,[qaG,s22_1,jd]),(qeg,[qaG,s22_1,jd]),(uW,[qdu,s22_1,jd]),(qbK,[s22_6,qaH,jd]),(uV,[s22_6,qaH,jd])] [⟨#[120,108,111,99,97,108]⟩]=true:=by kernel_rfl
theorem qoW:uV++qP=qhu:=by kernel_rfl
theorem qqB {S1 q:Int} (hq:F6 S1 3=q) (hx:E9 q 3=2):z9 w [1,3,7,17] [jd,s22_1,qaH,s22_3,qaG,qdu,s22_6,s22_7,qg1,qg0,uX,qeh,qeg,uW,qbK,uV] uV qaj S1 where
 hosts:=λc os=>qcD hq hx (λ_ _=>qbx (r:=⟨#[]⟩)) (λ_ _=>qN.1 .au) (λ_ _=>qN.2.1 .au) (λ_ _=>qN.2.2.1 .au) (λ_ _=>qN.2.2.2.1 .au) (λ_ _=>qN.2.2.2.2.1 .au) (λ_ _=>qN.2.2.2.2.2.1 .au) (λ_ _=>qN.2.2.2.2.2.2.1 .au) (λ_ _=>qN.2.2.2.2.2.2.2 .au) (λ_ _=>qW.1 .au) (λ_ _=>qW.2.1 .au) (λ_ _=>qW.2.2.1 .au) (λ_ _=>qW.2.2.2.1 .au) (λ_ _=>qW.2.2.2.2.1 .au) (λ_ _=>qW.2.2.2.2.2.1 .au) (λ_ _=>qW.2.2.2.2.2.2 .au)
 lost:=λos=>qbt.2.2
 reach:=λc=>by
  unfold reachAt7
  rw [qoW]
  exact qja
 add:=by decide +kernel
 rooms:=jU qpa rfl rfl (by decide) (by decide)
noncomputable def qai:List Int:=[0,20,65,40,130,60,195]
theorem qo9:wB [1,4,13,43] [(jc,[]),(wx,[jc]),(ua,[jc]),(qdt,[jc]),(s30_4,[wx,jc]),(qgZ,[wx,jc]),(qgY,[wx,jc]),(qgX,[wx,jc]),(s30_8,[ua,jc]),(qgW,[ua,jc]),(qef,[ua,jc]),(qee,[ua,jc]),(s30_12,[qdt,jc]),(qbJ,[s30_4,wx,jc]),(qed,[s30_4,wx,jc]),(uU,[s30_4,wx,jc])] []=true:=by kernel_rfl
theorem qoV:uU++qP=qht:=by kernel_rfl
theorem qqA {S1 q:Int} (hq:F6 S1 3=q) (hx:E9 q 3=0):z9 w [1,4,13,43] [jc,wx,ua,qdt,s30_4,qgZ,qgY,qgX,s30_8,qgW,qef,qee,s30_12,qbJ,qed,uU] uU qai S1 where
 hosts:=λc os=>qcF hq hx (λ_ _=>qbw (r:=⟨#[]⟩)) (λ_ _=>qM.1 .au) (λ_ _=>qM.2.1 .au) (λ_ _=>qM.2.2.1 .au) (λ_ _=>qM.2.2.2.1 .au) (λ_ _=>qM.2.2.2.2.1 .au) (λ_ _=>qM.2.2.2.2.2.1 .au) (λ_ _=>qM.2.2.2.2.2.2.1 .au) (λ_ _=>qM.2.2.2.2.2.2.2 .au) (λ_ _=>qV.1 .au) (λ_ _=>qV.2.1 .au) (λ_ _=>qV.2.2.1 .au) (λ_ _=>qV.2.2.2.1 .au) (λ_ _=>qV.2.2.2.2.1 .au) (λ_ _=>qV.2.2.2.2.2.1 .au) (λ_ _=>qV.2.2.2.2.2.2 .au)
 lost:=λos=>qbs.1
 reach:=λc=>by
  unfold reachAt7
  rw [qoV]
  exact qi9
 add:=by decide +kernel
 rooms:=jU qo9 rfl rfl (by decide) (by decide)
theorem qo8:wB [1,4,13,43] [(jb,[]),(ww,[jb]),(v9,[jb]),(qds,[jb]),(s31_4,[ww,jb]),(qgV,[ww,jb]),(qgU,[ww,jb]),(qgT,[ww,jb]),(s31_8,[v9,jb]),(qgS,[v9,jb]),(qec,[v9,jb]),(qeb,[v9,jb]),(s31_12,[qds,jb]),(qbI,[s31_4,ww,jb]),(qea,[s31_4,ww,jb]),(uT,[s31_4,ww,jb])] [⟨#[110,101,116]⟩]=true:=by kernel_rfl
theorem qoU:uT++qP=qhs:=by kernel_rfl
theorem qqz {S1 q:Int} (hq:F6 S1 3=q) (hx:E9 q 3=1):z9 w [1,4,13,43] [jb,ww,v9,qds,s31_4,qgV,qgU,qgT,s31_8,qgS,qec,qeb,s31_12,qbI,qea,uT] uT qai S1 where
 hosts:=λc os=>qcE hq hx (λ_ _=>qbw (r:=⟨#[]⟩)) (λ_ _=>qM.1 .au) (λ_ _=>qM.2.1 .au) (λ_ _=>qM.2.2.1 .au) (λ_ _=>qM.2.2.2.1 .au) (λ_ _=>qM.2.2.2.2.1 .au) (λ_ _=>qM.2.2.2.2.2.1 .au) (λ_ _=>qM.2.2.2.2.2.2.1 .au) (λ_ _=>qM.2.2.2.2.2.2.2 .au) (λ_ _=>qV.1 .au) (λ_ _=>qV.2.1 .au) (λ_ _=>qV.2.2.1 .au) (λ_ _=>qV.2.2.2.1 .au) (λ_ _=>qV.2.2.2.2.1 .au) (λ_ _=>qV.2.2.2.2.2.1 .au) (λ_ _=>qV.2.2.2.2.2.2 .au)
 lost:=λos=>qbs.2.1
 reach:=λc=>by
  unfold reachAt7
  rw [qoU]
  exact qi8
 add:=by decide +kernel
 rooms:=jU qo8 rfl rfl (by decide) (by decide)
theorem qo7:wB [1,4,13,43] [(ja,[]),(wv,[ja]),(v8,[ja]),(qdr,[ja]),(s32_4,[wv,ja]),(qgR,[wv,ja]),(qgQ,[wv,ja]),(qgP,[wv,ja]),(s32_8,[v8,ja]),(qgO,[v8,ja]),(qd9,[v8,ja]),(qd8,[v8,ja]),(s32_12,[qdr,ja]),(qbH,[s32_4,wv,ja]),(qd7,[s32_4,wv,ja]),(uS,[s32_4,wv,ja])] [⟨#[120,108,111,99,97,108]⟩]=true:=by kernel_rfl
theorem qoT:uS++qP=qhr:=by kernel_rfl
theorem qqy {S1 q:Int} (hq:F6 S1 3=q) (hx:E9 q 3=2):z9 w [1,4,13,43] [ja,wv,v8,qdr,s32_4,qgR,qgQ,qgP,s32_8,qgO,qd9,qd8,s32_12,qbH,qd7,uS] uS qai S1 where
 hosts:=λc os=>qcD hq hx (λ_ _=>qbw (r:=⟨#[]⟩)) (λ_ _=>qM.1 .au) (λ_ _=>qM.2.1 .au) (λ_ _=>qM.2.2.1 .au) (λ_ _=>qM.2.2.2.1 .au) (λ_ _=>qM.2.2.2.2.1 .au) (λ_ _=>qM.2.2.2.2.2.1 .au) (λ_ _=>qM.2.2.2.2.2.2.1 .au) (λ_ _=>qM.2.2.2.2.2.2.2 .au) (λ_ _=>qV.1 .au) (λ_ _=>qV.2.1 .au) (λ_ _=>qV.2.2.1 .au) (λ_ _=>qV.2.2.2.1 .au) (λ_ _=>qV.2.2.2.2.1 .au) (λ_ _=>qV.2.2.2.2.2.1 .au) (λ_ _=>qV.2.2.2.2.2.2 .au)
 lost:=λos=>qbs.2.2
 reach:=λc=>by
  unfold reachAt7
  rw [qoT]
  exact qi7
 add:=by decide +kernel
 rooms:=jU qo7 rfl rfl (by decide) (by decide)
noncomputable def qfu (wd:Nat) (L:List Int) (k:Nat):Bool :=
 (((yf wd (E3 (k/16)) (E3 (k%16))).any λp=>L.any (· == p)) == !(L.any λi=>i==E3 k)) &&
 ((!(yf wd (E3 (k/16)) (E3 (k%16))).any (· == -1))&&(decide ((yf wd (E3 (k/16)) (E3 (k%16))).length≤1000) &&
 (((yf wd (E3 (k/16)) (E3 (k%16))).isEmpty==J3 k 0) &&
 ((zC wd).any (λp=>E3 p.1==min (E3 (k/16)) (E3 (k%16))&&E3 p.2==max (E3 (k/16)) (E3 (k%16)))==(L.any λi=>i==E3 k)))))
theorem qho {wd:Nat} {L:List Int} (h:(G8 256).all (qfu wd L)=true) {k:Nat} (hk:k<256):qZ wd L (E3 (k/16)) (E3 (k%16)) (E3 k) (L.any λi=>i==E3 k) (!J3 k 0):=by
 have z:=O7.mp h k (P6.mpr hk)
 simp only [qfu,J8,beq_iff_eq,decide_eq_true_eq,L7] at z
 obtain ⟨z1,z2,z3,z4,z5⟩:=z
 refine ⟨by simp only [E6];lia,by simp only [E6];lia,by simp only [E6];lia,by simp only [E6];lia,by simp only [E6];lia,?_,?_,?_,rfl,z1,z2,z3,by rw [z4,Bool.not_not],z5⟩
 ·rw [J7 _ (by decide)];rfl
 ·rw [M1 _ (by decide)];rfl
 ·rw [M1 _ (by decide)];simp only [E6];lia
theorem qtq:(G8 256).all (qfu 1 qak)=true:=by decide +kernel
theorem qhL {xs E0 E1:List T1} {n:Nat} {S0 S1:Int} {h0 h1 h2 h3 h4 h5 h6 h7 h8 h9 h10 h11 h12 h13 h14 h15:U2} {k:Nat} (hk:k<256) (I:wt xs E0 E1 S0 S1 (E3 k)) (hw:E9 S1 3=0) (H:z9 w [1,2,3,5,8,13,21] [h0,h1,h2,h3,h4,h5,h6,h7,h8,h9,h10,h11,h12,h13,h14,h15] h15 qak S1):qI w 4 (jo xs n) [290,194,201]:=by
 have P:=qho qtq hk
 by_cases h0:k=0
 ·subst h0
  exact qqP I hw H P
 ·have hb:(!J3 k 0)=true:=by
   cases hq:J3 k 0
   ·rfl
   ·exact absurd (J9 hq) h0
  rw [hb] at P
  by_cases h1:k<16
  ·have e:k/16=0:=by lia
   rw [e] at P
   exact qqO I hw H P (by simp only [E6];lia)
  ·exact qqN I hw H P (by simp only [E6];lia)
theorem qtp:(G8 256).all (qfu 2 qaj)=true:=by decide +kernel
theorem qhK {xs E0 E1:List T1} {n:Nat} {S0 S1:Int} {h0 h1 h2 h3 h4 h5 h6 h7 h8 h9 h10 h11 h12 h13 h14 h15:U2} {k:Nat} (hk:k<256) (I:wt xs E0 E1 S0 S1 (E3 k)) (hw:E9 S1 3=1) (H:z9 w [1,3,7,17] [h0,h1,h2,h3,h4,h5,h6,h7,h8,h9,h10,h11,h12,h13,h14,h15] h15 qaj S1):qI w 4 (jo xs n) [290,194,201]:=by
 have P:=qho qtp hk
 by_cases h0:k=0
 ·subst h0
  exact qqM I hw H P
 ·have hb:(!J3 k 0)=true:=by
   cases hq:J3 k 0
   ·rfl
   ·exact absurd (J9 hq) h0
  rw [hb] at P
  by_cases h1:k<16
  ·have e:k/16=0:=by lia
   rw [e] at P
   exact qqL I hw H P (by simp only [E6];lia)
  ·exact qqK I hw H P (by simp only [E6];lia)
theorem qto:(G8 256).all (qfu 3 qai)=true:=by decide +kernel
theorem qhJ {xs E0 E1:List T1} {n:Nat} {S0 S1:Int} {h0 h1 h2 h3 h4 h5 h6 h7 h8 h9 h10 h11 h12 h13 h14 h15:U2} {k:Nat} (hk:k<256) (I:wt xs E0 E1 S0 S1 (E3 k)) (hw:E9 S1 3=2) (H:z9 w [1,4,13,43] [h0,h1,h2,h3,h4,h5,h6,h7,h8,h9,h10,h11,h12,h13,h14,h15] h15 qai S1):qI w 4 (jo xs n) [290,194,201]:=by
 have P:=qho qto hk
 by_cases h0:k=0
 ·subst h0
  exact qqJ I hw H P
 ·have hb:(!J3 k 0)=true:=by
   cases hq:J3 k 0
   ·rfl
   ·exact absurd (J9 hq) h0
  rw [hb] at P
  by_cases h1:k<16
  ·have e:k/16=0:=by lia
   rw [e] at P
   exact qqI I hw H P (by simp only [E6];lia)
  ·exact qqH I hw H P (by simp only [E6];lia)
theorem qc4 {xs:List T1} (hx:qH xs) (lo hi st:Option Int):qH (slicePick ⟨xs⟩ lo hi st).toList:=by
 intro v hv
 unfold slicePick at hv
 simp only [List.mem_filterMap] at hv
 obtain ⟨i,_,hi⟩:=hv
 have hi:xs[i]? = some v:=by simpa using hi
 exact hx v (Q3 hi)
theorem qnq {xs:List T1} {n:Nat} (hx:qH xs) (hl:xs.length≤63):qI w 4 (jo xs n) [290,194,201]:=by
 let E0:=(slicePick ⟨xs⟩ (some 0) none (some 2)).toList
 let E1:=(slicePick ⟨xs⟩ (some 1) none (some 2)).toList
 have i0:qH E0:=qc4 hx _ _ _
 have i1:qH E1:=qc4 hx _ _ _
 have m0:0≤E9 (106+sumI E0) 256:=M8 _ (by decide)
 have m1:E9 (106+sumI E0) 256<256:=O1 _ (by decide)
 obtain ⟨k,hk⟩:=J5 m0
 have I:wt xs E0 E1 (sumI E0) (sumI E1) (E3 k):=⟨hl,rfl,rfl,i0,i1,rfl,rfl,hk⟩
 have hk':k<256:=by lia
 have d0:0≤E9 (sumI E1) 3:=M8 _ (by decide)
 have d1:E9 (sumI E1) 3<3:=O1 _ (by decide)
 have t0:0≤E9 (F6 (sumI E1) 3) 3:=M8 _ (by decide)
 have t1:E9 (F6 (sumI E1) 3) 3<3:=O1 _ (by decide)
 have dc:E9 (sumI E1) 3=0∨E9 (sumI E1) 3=1∨E9 (sumI E1) 3=2:=by lia
 have tc:E9 (F6 (sumI E1) 3) 3=0∨E9 (F6 (sumI E1) 3) 3=1∨E9 (F6 (sumI E1) 3) 3=2:=by lia
 rcases dc with d | d | d <;> rcases tc with t | t | t
 ·exact qhL hk' I d (qqG rfl t)
 ·exact qhL hk' I d (qqF rfl t)
 ·exact qhL hk' I d (qqE rfl t)
 ·exact qhK hk' I d (qqD rfl t)
 ·exact qhK hk' I d (qqC rfl t)
 ·exact qhK hk' I d (qqB rfl t)
 ·exact qhJ hk' I d (qqA rfl t)
 ·exact qhJ hk' I d (qqz rfl t)
 ·exact qhJ hk' I d (qqy rfl t)
theorem qjU {cl:U2→Option Addr} {mean:ExcName→Option T1} {ns:List Int} {s₁ s':T2} (hK:OldK s₁.heap s'.heap) (hos:s'.os=s₁.os) (hb:∀x∈s'.gens,x.bare=true) :
  GoodWG Challenge.rw_xr0021_01.row.claim cl mean [ofPy (PyData.list (G7 PyData.int ns))] s₁ (.ok (.ret (.bool true))) s' :=
 ⟨.inl ⟨.bool true, .bool true,[],rfl,λ_=>rfl, .bool true,(by wrow_post),λ_=>⟨F8,λ_ h=>nomatch h⟩⟩,hK,hos,hb⟩
theorem qtd (p:T4):ktOf p 290=none:=by kernel_rfl
theorem qtg (p:T4):((Mine.h1.ktop_579 p).get 198).map (λo=>match o.data with | .fields vs=>vs[11]? | _=>none)=some (some (.ref 194)):=by kernel_rfl
theorem qte (p:T4):((Mine.h1.ktop_579 p).get 205).map (λo=>match o.data with | .fields vs=>vs[11]? | _=>none)=some (some (.ref 201)):=by kernel_rfl
theorem qsk (p:T4):((Mine.h1.ktop_579 p).get 198).map (λo=>o.cls)=some (.type "code"):=by kernel_rfl
theorem qsj (p:T4):((Mine.h1.ktop_579 p).get 205).map (λo=>o.cls)=some (.type "code"):=by kernel_rfl
theorem qth (p:T4):(Mine.h1.ktop_579 p).get 194=some (yB []):=by kernel_rfl
theorem qtf (p:T4):(Mine.h1.ktop_579 p).get 201=some (yB []):=by kernel_rfl
theorem qeY:∀{vs:List T1} {ns:List Int},IntsAre vs ns→qH vs∧vs.length=ns.length
 | [],[],_=>⟨(λ_ h=>nomatch h),rfl⟩
 | _::vs,_::ns,h=>by
  cases h with
  | cons n t h =>
   obtain ⟨h1,h2⟩:=qeY h
   refine ⟨λv hv => ?_,congrArg G6 h2⟩
   rcases E2.mp hv with rfl | hv
   ·exact ⟨_,_,rfl⟩
   ·exact h1 v hv
theorem qk8 {cl:U2→Option Addr} {mean:ExcName→Option T1} {s₁:T2} {vs:List T1} {ns:List Int} (ZH:KT.Holds s₁.heap 1 0 (Mine.h1.ktop_579 w.params)) (hg:s₁.gens = #[])
  (h290:s₁.heap.get? 290=some {cls := .type "list",data := .seq vs.toArray}) (hI:IntsAre vs ns) (hl:ns.length≤63) :
  wpAny (model Challenge.rw_xr0021_01.row.prog w) callerA (call (.ref 289) [.ref 290]) (λv s'=>GoodWG Challenge.rw_xr0021_01.row.claim cl mean [ofPy (PyData.list (G7 PyData.int ns))] s₁ (.ok (.ret v)) s')
   (λe s'=>GoodWG Challenge.rw_xr0021_01.row.claim cl mean [ofPy (PyData.list (G7 PyData.int ns))] s₁ (.error e) s') s₁:=by
 obtain ⟨hi,hlen⟩:=qeY hI
 obtain ⟨m,n,js,hs,ih,cs,vq,tl,sq,z,e,h1,h2,h3,h4,h5⟩:=qnq (w:=w) (xs:=vs) (n:=0) hi (by lia)
 refine wpAny_call ?_
 have hkt:∀a o,ktOf w.params a=some o→s₁.heap.get? a=some o:=λa o q=>by
  unfold ktOf at q
  split at q
  ·cases q
  ·split at q
   ·cases q
   ·exact kt_at ZH q
 have g194:s₁.heap.get? 194=some (yB []):=kt_at ZH (qth w.params)
 have g201:s₁.heap.get? 201=some (yB []):=kt_at ZH (qtf w.params)
 have bare0:∀x∈s₁.gens,x.bare=true:=λx hx=>by
  rw [hg] at hx
  simp at hx
 refine qbf z (λ_=>rfl) e h1 h2 h3 h4 h5 callerA s₁ _ rfl (by show 1+claimMargin+130*(4+1)<U0;decide) (by show 4+260*(4+1)<cLine;decide) hkt (by decide) (λa ha => ?_) ⟨h290,g194,g201,trivial⟩ (λk hk=>nomatch hk) bare0 (λν s' P => ?_) (λ_ _=>rfl) rfl (λl hl=>by cases hl;rfl)
 ·rcases E2.mp ha with rfl | ha
  ·exact qtd _
  ·rcases E2.mp ha with rfl | ha
   ·rfl
   ·rcases E2.mp ha with rfl | ha
    ·rfl
    ·cases ha
 ·refine qjU ?_ P.os P.bare
  have p:=P.post
  have tab:∀c P':Nat,((Mine.h1.ktop_579 w.params).get c).map (λo=>match o.data with | .fields vs=>vs[11]? | _=>none)=some (some (.ref P'))→((Mine.h1.ktop_579 w.params).get c).map (λo=>o.cls)=some (.type "code")→isCodeTable s₁.heap P':=λc P' e1 e2=>by
   cases ho:(Mine.h1.ktop_579 w.params).get c with
   | none=>rw [ho] at e1;cases e1
   | some o =>
    rw [ho] at e1 e2
    simp only [Option.map_some,Option.some.injEq] at e1 e2
    cases hd:o.data with
    | fields fs=>rw [hd] at e1;exact ⟨c,o,fs,kt_at ZH ho,e2,hd,e1⟩
    | _=>rw [hd] at e1;cases e1
  have t194:isCodeTable s₁.heap 194:=tab 198 194 (qtg _) (qsk _)
  have t201:isCodeTable s₁.heap 201:=tab 205 201 (qte _) (qsj _)
  have grown:∀(b:Nat) (os:List T1) (o:Obj),isCodeTable s₁.heap b→s₁.heap.get? b=some (yB [])→s'.heap.get? b=some (yB os)→s₁.heap.get? b=some o→asItWas s₁.heap s'.heap b o:=λb os o ht e1 e2 e3=>by
   rw [e1] at e3
   cases e3
   exact .inr (.inl ⟨ht,rfl,#[],⟨os⟩,rfl,by rw [e2];simp [yB]⟩)
  have look:∀b o,s₁.heap.get? b=some o→asItWas s₁.heap s'.heap b o:=λb o e3=>by
   by_cases b0:b=290
   ·subst b0
    rw [h290] at e3
    cases e3
    exact .inl p.1
   ·by_cases b1:b=194
    ·subst b1
     exact grown 194 _ o t194 g194 p.2.1 e3
    ·by_cases b2:b=201
     ·subst b2
      exact grown 201 _ o t201 g201 p.2.2.1 e3
     ·refine .inl (P.keep b o e3 λhm => ?_)
      rcases E2.mp hm with rfl | hm
      ·exact b0 rfl
      ·rcases E2.mp hm with rfl | hm
       ·exact b1 rfl
       ·rcases E2.mp hm with rfl | hm
        ·exact b2 rfl
        ·cases hm
  refine ⟨look,λb o e3 => ?_⟩
  by_cases b0:b=290
  ·subst b0;exact ⟨_,p.1⟩
  ·by_cases b1:b=194
   ·subst b1;exact ⟨_,p.2.1⟩
   ·by_cases b2:b=201
    ·subst b2;exact ⟨_,p.2.2.1⟩
    ·refine ⟨o,P.keep b o e3 λhm => ?_⟩
     rcases E2.mp hm with rfl | hm
     ·exact b0 rfl
     ·rcases E2.mp hm with rfl | hm
      ·exact b1 rfl
      ·rcases E2.mp hm with rfl | hm
       ·exact b2 rfl
       ·cases hm
end
noncomputable def qcC:DefRec:={name:="law",params:=qmz (fT 24),body:=qmy (fT 24),scope:=qjX (fT 24),pos:=⟨253,0,281,80⟩}
theorem qnr:defOf view PySem.Challenge.rw_xr0021_01.row.name=some (qcC,[]):=by kernel_rfl
theorem qnp:PySem.Challenge.rw_xr0021_01.row.prog.theDef PySem.Challenge.rw_xr0021_01.row.name=some (qcC.params,qcC.body,qcC.scope):=by kernel_rfl
theorem qqx:kwWritten? qcC.params.kwonlyargs qcC.params.kw_defaults=some []:=by kernel_rfl
theorem qk7:PySem.Challenge.rw_xr0021_01.wellSaid=true:=by kernel_rfl
end Mine
theorem PySem.Challenge.cw_xr0021_01_holds : PySem.Challenge.rw_xr0021_01.Holds := by
 w_on
 refine holds_law Mine.qk7 λsaid => ?_
 refine holds_openX (q:=Mine.view) (loose:=Mine.qjI) (Xt:=λs=>xlAt Mine.view [] s&&recOk PySem.Challenge.rw_xr0021_01.row.records s) (XP:=XL Mine.view []) (Yf:=obsZ Mine.qhR) (Ya:=valZ Mine.qdM 290 654) (N:=3256) Mine.qkB (λs e=>xl_of s (M0.mp e).1) XL.keeps Mine.qnr Mine.qnp Mine.qqx (λs e=>recFacts_of (M0.mp e).2) (by rfl) (by assumption) (by decide +kernel) ⟨rfl,rfl,rfl,rfl,rfl,by decide +kernel⟩ ?hw ?hc
 case hw=>w_witness2
 intro w s₀ s₁ mg mb G y fa o pm cd doc dV kV ho hd hcd hD hmg hg args vals as L hpre hlay hrd hwl hlo
 have f:=z_facts Mine.qlg y
 have ZH:KT.Holds s₁.heap 1 0 (Mine.h1.ktop_579 w.params):=KT.Holds.keeps L.keeps (Mine.uv f.1)
 have KX:=InK.keeps w s₀.heap s₁.heap f.2.1 L.keeps
 refine G.open ?_
 intro T B D TE TW
 wrow_args hpre hlay hrd hwl hlo
 obtain ⟨hat,hsz⟩:=script_at L
 rw [f.2.2.1] at hat hsz
 subst hat
 have hfa:fa=289:=by
  have e:=mg_of KX T.g (show nsIn (Mine.qdM w.params) mainGlobals "law"=some (some (.ref 289)) by kernel_rfl)
  exact Value.ref.inj (Option.some.inj (hmg.symm.trans e))
 subst hfa
 clear hd ho hcd hD hmg
 have hc := ‹¬((63:Nat):Int)<_›
 exact Mine.qk8 ZH hg (script_obj L ‹Heap.IsList s₁.heap 290 _›) ‹IntsAre _ _› (by omega)
