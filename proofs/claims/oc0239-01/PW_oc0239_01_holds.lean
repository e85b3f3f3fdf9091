import PyProof.Rows.All
import KE.KBoundM
import KE.KDictIter
import KE.KDictSum
import KE.KSortTup
import KE.KStar
import Wide.FinOn
import OpenK.AllK
import Wide.All
import Lean
import PySem.Challenge.RW_oc0239_01
open PySem PySem.W PyProof.Rows
set_option Elab.async false
set_option maxRecDepth 100000
open List (all_append all_cons all_nil append_assoc append_nil drop_eq_getElem_cons drop_of_length_le ext_getElem? filter_congr filter_cons filter_eq_nil_iff flatMap_cons foldl_cons getD_eq_getElem?_getD getElem?_append_right getElem?_map getElem?_set_ne getElem?_set_self getElem?_take_of_lt getElem_cons_succ getElem_mem getElem_of_mem length_append length_cons length_drop length_filter_le length_map length_nil length_range length_singleton length_take length_zip map_append map_congr_left map_cons map_drop map_map map_nil map_set mem_of_getElem? mem_or_eq_of_mem_set not_mem_nil of_mem_zip reverse_cons set_append_left set_append_right set_set)
open Nat (le_add_right le_of_ble_eq_true le_of_eq le_of_lt le_of_lt_succ le_succ lt_asymm lt_or_ge lt_succ_self ne_of_gt ne_of_lt not_lt_of_le sub_self zero_le)
namespace Mine
@[reducible] def deT:Lean.Syntax:=(Lean.Unhygienic.run `(Lean.Parser.Tactic.tacticSeq| decide)).raw
@[reducible] def r1T:Lean.Syntax:=(Lean.Unhygienic.run `(Lean.Parser.Tactic.tacticSeq| (intro _;rfl))).raw
@[reducible] def r2T:Lean.Syntax:=(Lean.Unhygienic.run `(Lean.Parser.Tactic.tacticSeq| (intro _ _;rfl))).raw
@[reducible] def r3T:Lean.Syntax:=(Lean.Unhygienic.run `(Lean.Parser.Tactic.tacticSeq| (intro _ _ _;rfl))).raw
@[reducible] def rfT:Lean.Syntax:=(Lean.Unhygienic.run `(Lean.Parser.Tactic.tacticSeq| rfl)).raw
@[reducible] def w2T:Lean.Syntax:=(Lean.Unhygienic.run `(Lean.Parser.Tactic.tacticSeq| (intro _ _;with_unfolding_all rfl))).raw
@[reducible] def wuT:Lean.Syntax:=(Lean.Unhygienic.run `(Lean.Parser.Tactic.tacticSeq| with_unfolding_all rfl)).raw
noncomputable abbrev pwB:List Stmt:=PySem.Challenge.pw_oc0239_01.main.body
noncomputable def pwv:Program:={ PySem.Challenge.pw_oc0239_01 with main:={ PySem.Challenge.pw_oc0239_01.main with body:=pwB.take 1 ++ ((pwB.drop 2).take 6 ++ ((pwB.drop 9).take 5 ++ ((pwB.drop 15).take 1 ++ pwB.drop 17))) } }
noncomputable def vj:List Stmt->Nat->Stmt
 | [],_=>.Pass ⟨0,0,0,0⟩
 | s :: _,0=>s
 | _ :: l,k + 1=>vj l k
noncomputable def kst (k:Nat):Stmt:=vj pwB k
noncomputable def kms (k j:Nat):Stmt:=match kst k with
 | .ClassDef _ _ _ b _ _ _ _ _ _ _=>vj b j
 | s=>s
noncomputable def ksv (s:String) (t:Tok):Value:=.str (Str.ofString s) t
noncomputable def kos (s:String):Str:=Str.ofString s
noncomputable def ken (P:Params) (s:String) (t:Tok) (v:Value):DictEntry:={ hash:=PyData.keyHash P (Str.ofString s),key:=.str (Str.ofString s) t,val:=v }
noncomputable def kco (n q:String) (t:Nat) (line argc fl:Int) (r1 r2:Nat) (x y:Value) (r3 t4:Nat):Obj:=
 { cls:=.type "code",data:=.fields #[ksv n t,ksv q (t + 1),ksv "/claim/cut.py" (t + 2),.int line 0,.int argc 0,.int 0 0,.int 0 0,.int fl 0,.ref r1,.bool true,.int 181 0,.ref r2,.none,x,y,.ref r3,.int t4 0,.int line 0,ksv "/claim/cut.py" (t4 + 1)] }
noncomputable def kfn (n q:String) (d:Stmt) (dv:Value) (m:String) (mt c:Nat):Obj:=match d with
 | .FunctionDef _ a b _ _ _ s _ _ _=>{ cls:=.type "function",data:=.func { name:=Str.ofString n,qualname:=Str.ofString q,params:=a,body:=.stmts b,scope:=s,globals:=3,closure:=[],defaults:=dv,kwdefaults:=.none,pyModule:=ksv m mt,code:=.ref c } }
 | _=>{ cls:=.none,data:=.plain }
noncomputable def hd.heap_39 (P:Params):Frag:=[
 (2,{ cls:=.none,data:=.dict #[] }),
 (3,{ cls:=.type "dict",data:=.dict #[ken P "__name__" 165 (ksv "law_oc0239_01" 430),ken P "__doc__" 166 (.none),ken P "__package__" 167 (.none),ken P "__loader__" 168 (.builtin "__main__.__loader__#opaque"),ken P "__spec__" 169 (.none),ken P "__annotations__" 170 (.ref 6),ken P "__builtins__" 171 (.ref 4),ken P "__file__" 173 (ksv "/claim/cut.py" 172),ken P "__cached__" 174 (.none),ken P "_wall" 193 (.ref 21),ken P "_raise_serialization_error" 202 (.ref 28),ken P "_escape_cdata" 209 (.ref 35),ken P "_escape_attrib" 216 (.ref 42),ken P "_escape_attrib_html" 223 (.ref 49),ken P "_escape_cdata_c14n" 230 (.ref 56),ken P "_escape_attrib_c14n" 237 (.ref 63),ken P "_NODE_OUT" 242 (.int (-1) 241),ken P "_NODE_DONE" 245 (.int (-2) 244),ken P "_NodeInfo" 282 (.ref 82),ken P "CycleError" 300 (.ref 97),ken P "TopologicalSorter" 419 (.ref 179),ken P "three_way_cmp" 429 (.ref 190),ken P "_law_drawn" 437 (.ref 195),ken P "_law_ahead" 443 (.ref 200),ken P "_law_told" 449 (.ref 205),ken P "_law_kind" 457 (.ref 212),ken P "_law_caught" 463 (.ref 217),ken P "_law_is_ring" 469 (.ref 222),ken P "law" 475 (.ref 227)] 29 }),
 (34,kco "_escape_cdata" "_escape_cdata" 203 7 1 3 29 30 (.ref 31) (.ref 32) 33 207),
 (35,kfn "_escape_cdata" "_escape_cdata" (kst 3) .none "cpy313.xml.etree.ElementTree" 194 34),
 (41,kco "_escape_attrib" "_escape_attrib" 210 18 1 3 36 37 (.ref 38) (.ref 39) 40 214),
 (42,kfn "_escape_attrib" "_escape_attrib" (kst 4) .none "cpy313.xml.etree.ElementTree" 194 41),
 (48,kco "_escape_attrib_html" "_escape_attrib_html" 217 37 1 3 43 44 (.ref 45) (.ref 46) 47 221),
 (49,kfn "_escape_attrib_html" "_escape_attrib_html" (kst 5) .none "cpy313.xml.etree.ElementTree" 194 48),
 (55,kco "_escape_cdata_c14n" "_escape_cdata_c14n" 224 48 1 3 50 51 (.ref 52) (.ref 53) 54 228),
 (56,kfn "_escape_cdata_c14n" "_escape_cdata_c14n" (kst 6) .none "cpy313.xml.etree.ElementTree" 194 55),
 (62,kco "_escape_attrib_c14n" "_escape_attrib_c14n" 231 61 1 3 57 58 (.ref 59) (.ref 60) 61 235),
 (63,kfn "_escape_attrib_c14n" "_escape_attrib_c14n" (kst 7) .none "cpy313.xml.etree.ElementTree" 194 62),
 (77,kco "__init__" "_NodeInfo.__init__" 262 84 2 3 72 73 (.ref 74) (.ref 75) 76 267),
 (78,kfn "__init__" "_NodeInfo.__init__" (kms 11 1) .none "cpy313.graphlib" 238 77),
 (81,{ cls:=.type "dict",data:=.dict #[ken P "__module__" 253 (ksv "cpy313.graphlib" 238),ken P "__firstlineno__" 257 (.int 81 256),ken P "__slots__" 261 (.ref 71),ken P "__init__" 269 (.ref 78),ken P "__static_attributes__" 273 (.ref 79),ken P "node" 275 (.ref 83),ken P "npredecessors" 277 (.ref 84),ken P "successors" 279 (.ref 85),ken P "__doc__" 280 (.none)] 5 }),
 (82,{ cls:=.type "type",data:=.cls { name:=kos "_NodeInfo",bases:=[.type "object"],mro:=[.ref 82,.type "object"],ns:=81,qualname:=kos "_NodeInfo",hasDict:=false,slotNames:=[kos "node",kos "npredecessors",kos "successors"] },slots:=#[none,none,some (ksv "_NodeInfo" 246),some (ksv "_NodeInfo" 254),some (.builtin "object.__new__"),some (.bool false)] }),
 (83,{ cls:=.type "member_descriptor",data:=.fields #[ksv "node" 274,.ref 82,.builtin "proto.slot",.builtin "proto.slot#set",.int 2 0] }),
 (84,{ cls:=.type "member_descriptor",data:=.fields #[ksv "npredecessors" 276,.ref 82,.builtin "proto.slot",.builtin "proto.slot#set",.int 1 0] }),
 (85,{ cls:=.type "member_descriptor",data:=.fields #[ksv "successors" 278,.ref 82,.builtin "proto.slot",.builtin "proto.slot#set",.int 0 0] }),
 (88,{ cls:=.type "tuple",data:=.seq #[.type "ValueError"] }),
 (96,{ cls:=.type "dict",data:=.dict #[ken P "__module__" 290 (ksv "cpy313.graphlib" 238),ken P "__firstlineno__" 294 (.int 88 293),ken P "__static_attributes__" 295 (.ref 95),ken P "__weakref__" 297 (.ref 98),ken P "__doc__" 298 (.none)] 3 }),
 (97,{ cls:=.type "type",data:=.cls { name:=kos "CycleError",bases:=[.type "ValueError"],mro:=[.ref 97,.type "ValueError",.type "Exception",.type "BaseException",.type "object"],ns:=96,qualname:=kos "CycleError" },slots:=#[some (.ref 88),none,some (ksv "CycleError" 283),some (ksv "CycleError" 291),some (.builtin "ValueError.__new__"),some (.bool true)] }),
 (98,{ cls:=.type "getset_descriptor",data:=.fields #[ksv "__weakref__" 296,.ref 97,.builtin "ExceptionGroup.__weakref__",.none] }),
 (108,{ cls:=.type "tuple",data:=.seq #[.none] }),
 (114,kco "__init__" "TopologicalSorter.__init__" 313 92 2 3 109 110 (.ref 111) (.ref 112) 113 320),
 (115,kfn "__init__" "TopologicalSorter.__init__" (kms 13 0) (.ref 108) "cpy313.graphlib" 238 114),
 (121,kco "_get_nodeinfo" "TopologicalSorter._get_nodeinfo" 323 101 2 3 116 117 (.ref 118) (.ref 119) 120 329),
 (122,kfn "_get_nodeinfo" "TopologicalSorter._get_nodeinfo" (kms 13 1) .none "cpy313.graphlib" 238 121),
 (123,{ cls:=.type "tuple",data:=.seq #[] }),
 (125,{ cls:=.type "tuple",data:=.seq #[ksv "self" 335,ksv "node" 336,ksv "predecessors" 337,ksv "nodeinfo" 338,ksv "pred" 339,ksv "pred_info" 340] }),
 (126,{ cls:=.type "tuple",data:=.seq #[] }),
 (128,kco "add" "TopologicalSorter.add" 332 106 2 7 123 124 (.ref 125) (.ref 126) 127 341),
 (129,kfn "add" "TopologicalSorter.add" (kms 13 2) .none "cpy313.graphlib" 238 128),
 (130,{ cls:=.type "tuple",data:=.seq #[] }),
 (133,kco "prepare" "TopologicalSorter.prepare" 344 115 1 3 130 131 .none .none 132 347),
 (134,kfn "prepare" "TopologicalSorter.prepare" (kms 13 3) .none "cpy313.graphlib" 238 133),
 (135,{ cls:=.type "tuple",data:=.seq #[] }),
 (137,{ cls:=.type "tuple",data:=.seq #[ksv "self" 353,ksv "result" 354,ksv "n2i" 355,ksv "node" 356] }),
 (138,{ cls:=.type "tuple",data:=.seq #[] }),
 (140,kco "get_ready" "TopologicalSorter.get_ready" 350 123 1 3 135 136 (.ref 137) (.ref 138) 139 357),
 (141,kfn "get_ready" "TopologicalSorter.get_ready" (kms 13 4) .none "cpy313.graphlib" 238 140),
 (161,kco "done" "TopologicalSorter.done" 374 142 1 7 156 157 (.ref 158) (.ref 159) 160 385),
 (162,kfn "done" "TopologicalSorter.done" (kms 13 7) .none "cpy313.graphlib" 238 161),
 (168,kco "_find_cycle" "TopologicalSorter._find_cycle" 388 165 1 3 163 164 (.ref 165) (.ref 166) 167 398),
 (169,kfn "_find_cycle" "TopologicalSorter._find_cycle" (kms 13 8) .none "cpy313.graphlib" 238 168),
 (178,{ cls:=.type "dict",data:=.dict #[ken P "__module__" 308 (ksv "cpy313.graphlib" 238),ken P "__firstlineno__" 312 (.int 90 311),ken P "__init__" 322 (.ref 115),ken P "_get_nodeinfo" 331 (.ref 122),ken P "add" 343 (.ref 129),ken P "prepare" 349 (.ref 134),ken P "get_ready" 359 (.ref 141),ken P "is_active" 366 (.ref 148),ken P "__bool__" 373 (.ref 155),ken P "done" 387 (.ref 162),ken P "_find_cycle" 400 (.ref 169),ken P "static_order" 407 (.ref 176),ken P "__static_attributes__" 412 (.ref 177),ken P "__dict__" 414 (.ref 180),ken P "__weakref__" 416 (.ref 181),ken P "__doc__" 417 (.none)] 4 }),
 (179,{ cls:=.type "type",data:=.cls { name:=kos "TopologicalSorter",bases:=[.type "object"],mro:=[.ref 179,.type "object"],ns:=178,qualname:=kos "TopologicalSorter" },slots:=#[none,none,some (ksv "TopologicalSorter" 301),some (ksv "TopologicalSorter" 309),some (.builtin "object.__new__"),some (.bool true)] }),
 (180,{ cls:=.type "getset_descriptor",data:=.fields #[ksv "__dict__" 413,.ref 179,.builtin "function.__dict__",.builtin "function.__dict__#set"] }),
 (181,{ cls:=.type "getset_descriptor",data:=.fields #[ksv "__weakref__" 415,.ref 179,.builtin "ExceptionGroup.__weakref__",.none] }),
 (189,kco "three_way_cmp" "three_way_cmp" 422 197 2 3 184 185 (.ref 186) (.ref 187) 188 427),
 (190,kfn "three_way_cmp" "three_way_cmp" (kst 15) .none "cpy313.unittest.util" 420 189),
 (194,kco "_law_drawn" "_law_drawn" 432 200 1 3 191 192 .none .none 193 435),
 (195,kfn "_law_drawn" "_law_drawn" (kst 17) .none "law_oc0239_01" 430 194),
 (199,kco "_law_ahead" "_law_ahead" 438 215 2 3 196 197 .none .none 198 441),
 (200,kfn "_law_ahead" "_law_ahead" (kst 18) .none "law_oc0239_01" 430 199),
 (204,kco "_law_told" "_law_told" 444 224 2 3 201 202 .none .none 203 447),
 (205,kfn "_law_told" "_law_told" (kst 19) .none "law_oc0239_01" 430 204),
 (211,kco "_law_kind" "_law_kind" 450 233 1 3 206 207 (.ref 208) (.ref 209) 210 455),
 (212,kfn "_law_kind" "_law_kind" (kst 20) .none "law_oc0239_01" 430 211),
 (216,kco "_law_caught" "_law_caught" 458 240 2 3 213 214 .none .none 215 461),
 (217,kfn "_law_caught" "_law_caught" (kst 21) .none "law_oc0239_01" 430 216),
 (221,kco "_law_is_ring" "_law_is_ring" 464 249 4 3 218 219 .none .none 220 467),
 (222,kfn "_law_is_ring" "_law_is_ring" (kst 22) .none "law_oc0239_01" 430 221),
 (226,kco "law" "law" 470 259 1 3 223 224 .none .none 225 473),
 (227,kfn "law" "law" (kst 23) .none "law_oc0239_01" 430 226)]
noncomputable def kAs:List Addr:=[2,3,34,35,41,42,48,49,55,56,62,63,77,78,81,82,83,84,85,88,96,97,98,108,114,115,121,122,123,125,126,128,129,130,133,134,135,137,138,140,141,161,162,168,169,178,179,180,181,189,190,194,195,199,200,204,205,211,212,216,217,221,222,226,227]
noncomputable def kH:Hook:=kmHook hd.heap_39 kAs (fun _=>by kernel_rfl) [202]
set_option maxHeartbeats 0 in
theorem zn:LeftO PySem.Challenge.pw_oc0239_01 pwv [Str.ofString "_NodeInfo"] (fun s=>xlAt pwv [] s && recOk (RowW.records PySem.Challenge.rw_oc0239_01.row.toRowW) s) (Hook.obs kH) (Hook.val kH) 3044:=by
 intro w;kernel_rfl
theorem zm:PySem.Challenge.rw_oc0239_01.wellSaid = true:=by kernel_rfl
section
open PySem.SeqAt PySem.MeetsSeq PySem.MeetsSeq2 PySem.MeetsSeq3 PySem.SeqRoads2
open AutoSeq1 (wpAny_loadPart')
noncomputable def pZ (A:Around) (s:Shared) (y x:Value) (b:Bool):Prop:=
 ∀ (prog:Program) (w:World) (E:Value->Shared->Prop) (Q:Value->Shared->Prop),Q (.bool b) s->wpAny (model prog w) A (richCompare .Lt y x) Q E s
noncomputable def eW (e f:Nat->Bool) (n m:Nat):Nat->Nat->Bool
 | 0,_=>decide (n < m)
 | k + 1,i=>if e i then eW e f n m k (i + 1) else f i
theorem uL (l b:Addr) (items items2:Array Value) (n n2:Nat) (dd dd2:Option Addr) (sl sl2:Array (Option Value)) (e f:Nat->Bool) (k:Nat) :
  ∀ i:Nat,min items.size items2.size - i = k->Meets (Builtin.«list.__eq__.loop» ⟨[.ref l,.ref b,rawInt i,rawInt 0],[]⟩)
   (fun A R s=>s.heap.get? l = some { cls:=.type "list",dict:=dd,data:=.seq items n,slots:=sl } /\ s.heap.get? b = some { cls:=.type "list",dict:=dd2,data:=.seq items2 n2,slots:=sl2 } /\
    (∀ j (h1:j < items.size) (h2:j < items2.size),EqAt A.in1 s items[j] items2[j] (e j) /\ pZ A.in1 s items[j] items2[j] (f j)) /\
    R (.ok (.ret (.bool (eW e f items.size items2.size k i)))) s):=by
 induction k with
 | zero=>
  intro i hk prog w A R s h;obtain ⟨hp,g,d,tk,os⟩:=s;obtain ⟨hl,hb,he,h⟩:=h;wp_walk using wpAny_loadPart' hl,wpAny_loadPart' hb
  rcases lt_or_ge i items.size with h1 | h1
  ·have hi1:items[((i:Nat):Int).toNat]? = some items[i]:=by simp [h1]
   have hi2:items2[((i:Nat):Int).toNat]? = none:=by simp;omega
   rw [hi1,hi2];wp_walk using wpAny_loadPart' hl,wpAny_loadPart' hb
   exact h
  ·have hi1:items[((i:Nat):Int).toNat]? = none:=by simp;omega
   rw [hi1];wp_walk using wpAny_loadPart' hl,wpAny_loadPart' hb
   exact h
 | succ k ih=>
  intro i hk prog w A R s h;obtain ⟨hp,g,d,tk,os⟩:=s;obtain ⟨hl,hb,he,h⟩:=h;wp_walk using wpAny_loadPart' hl,wpAny_loadPart' hb
  have hlt:i < items.size:=by omega
  have hlt2:i < items2.size:=by omega
  have hi1:items[((i:Nat):Int).toNat]? = some items[i]:=by simp [hlt]
  have hi2:items2[((i:Nat):Int).toNat]? = some items2[i]:=by simp [hlt2]
  have hc:((i:Int) + 1) = ((i + 1:Nat):Int):=by push_cast;rfl
  rw [eW] at h;rw [hi1,hi2];refine wpAny_bind ((he i hlt hlt2).1 prog w _ _ ?_)
  cases hb':e i with
  | true=>
   rw [hb'] at h;wp_walk
   rw [hc];exact ⟨plainId_quiet plain_eq_loop _,codeAny_builtin entry_eq_loop (by
    rw [Around.under_plainId plain_eq_loop _];exact ih (i + 1) (by omega) prog w A R _ ⟨hl,hb,he,by simpa using h⟩)⟩
  | false=>
   rw [hb'] at h;wp_walk using wpAny_loadPart' hl,wpAny_loadPart' hb
   rw [hi1,hi2];refine wpAny_bind ((he i hlt hlt2).2 prog w _ _ ?_)
   wp_walk
   simpa using h
theorem tz (l b:Addr) (items items2:Array Value) (n n2:Nat) (dd dd2:Option Addr) (sl sl2:Array (Option Value)) (e f:Nat->Bool) :
  Meets (Builtin.«list.__lt__» ⟨[.ref l,.ref b],[]⟩)
   (fun A R s=>s.heap.get? l = some { cls:=.type "list",dict:=dd,data:=.seq items n,slots:=sl } /\ s.heap.get? b = some { cls:=.type "list",dict:=dd2,data:=.seq items2 n2,slots:=sl2 } /\
    (∀ j (h1:j < items.size) (h2:j < items2.size),EqAt A.in1 s items[j] items2[j] (e j) /\ pZ A.in1 s items[j] items2[j] (f j)) /\
    R (.ok (.ret (.bool (eW e f items.size items2.size (min items.size items2.size) 0)))) s):=by
 intro prog w A R s h;obtain ⟨hp,g,d,tk,os⟩:=s;obtain ⟨hl,hb,he,h⟩:=h;have f3:=AutoSeq1.sub_list_list;wp_walk using wpAny_loadPart' hl,wpAny_loadPart' hb
 exact ⟨plainId_quiet plain_eq_loop _,codeAny_builtin entry_eq_loop (by
  rw [Around.under_plainId plain_eq_loop _];exact uL l b items items2 n n2 dd dd2 sl sl2 e f _ 0 rfl prog w A R _ ⟨hl,hb,he,by simpa using h⟩)⟩
theorem sj (l b:Addr) (items items2:Array Value) (n n2:Nat) (dd dd2:Option Addr) (sl sl2:Array (Option Value)) (e f:Nat->Bool) :
  Meets (Builtin.«tuple.__lt__» ⟨[.ref l,.ref b],[]⟩)
   (fun A R s=>s.heap.get? l = some { cls:=.type "tuple",dict:=dd,data:=.seq items n,slots:=sl } /\ s.heap.get? b = some { cls:=.type "tuple",dict:=dd2,data:=.seq items2 n2,slots:=sl2 } /\
    (∀ j (h1:j < items.size) (h2:j < items2.size),EqAt A.in1 s items[j] items2[j] (e j) /\ pZ A.in1 s items[j] items2[j] (f j)) /\
    R (.ok (.ret (.bool (eW e f items.size items2.size (min items.size items2.size) 0)))) s):=
 .of_wp fun prog w A R s h=>by
  obtain ⟨hp,g,d,tk,os⟩:=s;obtain ⟨hl,hb,he,h⟩:=h;have f2:=AutoSeq1.sub_tuple_tuple;have hZ:(items.toList.zip items2.toList).length = min items.size items2.size:=by simp
  wp_walk using wpAny_loadPart' hl,wpAny_loadPart' hb,wpAny_forIn_list _ (fun rest b s'=>b.1 = none /\ s' = ⟨hp,g,d,tk,os⟩ /\ ∃ i,i <= min items.size items2.size /\ rest = (items.toList.zip items2.toList).drop i /\
   R (.ok (.ret (.bool (eW e f items.size items2.size (min items.size items2.size - i) i)))) ⟨hp,g,d,tk,os⟩) _
  case turn=>
   rintro ⟨y,x⟩ rest b s' ⟨hb',rfl,i,hle,hz,hR⟩
   have hlt:i < (items.toList.zip items2.toList).length:=by
    rcases lt_or_ge i (items.toList.zip items2.toList).length with h' | h'
    ·exact h'
    ·rw [drop_of_length_le h'] at hz;cases hz
   have hm:i < min items.size items2.size:=hZ ▸ hlt;have h1:i < items.size:=Nat.lt_of_lt_of_le hm (Nat.min_le_left _ _);have h2:i < items2.size:=Nat.lt_of_lt_of_le hm (Nat.min_le_right _ _);rw [drop_eq_getElem_cons hlt] at hz;injection hz with hyx hrest
   have hy:y = items[i]:=by have:=congrArg Prod.fst hyx;simpa using this
   have hx:x = items2[i]:=by have:=congrArg Prod.snd hyx;simpa using this
   subst hy hx;have hk:min items.size items2.size - i = (min items.size items2.size - (i + 1)) + 1:=by omega
   rw [hk,eW] at hR;refine wpAny_bind ((he i h1 h2).1 prog w _ _ ?_)
   cases hy:e i with
   | true=>
    rw [hy] at hR;wp_walk
    exact ⟨rfl,rfl,i + 1,hm,hrest,by simpa using hR⟩
   | false=>
    rw [hy] at hR;have hlt':∀ (E:Value->Shared->Prop) (Q:Value->Shared->Prop),Q (.bool (f i)) ⟨hp,g,d,tk,os⟩->wpAny (model prog w) A.in1 (richCompare .Lt items[i] items2[i]) Q E ⟨hp,g,d,tk,os⟩:=fun E Q h=>(he i h1 h2).2 prog w E Q h
    wp_walk using hlt' _ _
    exact ⟨_,rfl,by simpa using hR⟩
  case fin=>
   rintro ⟨b1,b2⟩ s' ⟨hb',rfl,i,hle,hz,hR⟩
   simp only at hb';subst hb';have hge:min items.size items2.size <= i:=by
    rcases lt_or_ge i (items.toList.zip items2.toList).length with h' | h'
    ·rw [drop_eq_getElem_cons h'] at hz;cases hz
    ·exact hZ ▸ h'
   have h0:min items.size items2.size - i = 0:=by omega
   rw [h0,eW] at hR;wp_walk
   exact ⟨_,rfl,by simpa [Builtin.Tuple.tupleCompareSizes] using hR⟩
  case h=>
   exact ⟨rfl,rfl,0,zero_le _,rfl,by simpa using h⟩
end
local macro_rules | `(tactic| omega)=>`(tactic| lia)
section
theorem ef {α:Type} {l:List α} (d:α) {k:Nat} (h:k < l.length):l.getD k d = l[k]:=(congrArg (fun o:Option α=>o.getD d) (List.getElem?_eq_getElem h))
theorem bc {α:Type} (l:List α) (d:α) {k:Nat} (h:k < l.length):l[k]? = some (l.getD k d):=(List.getElem?_eq_getElem h).trans (congrArg some (ef d h).symm)
theorem z3 {α:Type} {M:Model} {A:Around} {c:Sem α} {Q:α->Shared->Prop} {E:Value->Shared->Prop} {s:Shared} (h:∀ c' Q' E',c' = c->Q' = Q->E' = E->wpAny M A c' Q' E' s):wpAny M A c Q E s:=h c Q E rfl rfl rfl
inductive D where
 | none
 | bool (b:Bool)
 | int (i:Int)
 | str (x:Str)
 | list (ds:List D)
 | tup (ds:List D)
 | ref (i:Nat)
noncomputable def g7 (h:Heap) (a:Addr) (items:Array Value):Prop:=∃ n,h.get? a = some { cls:=.type "tuple",data:=.seq items n }
theorem g7.isTuple {h:Heap} {a:Addr} {items:Array Value} (x:g7 h a items):h.IsTuple a items:=let ⟨n,e⟩:=x;⟨_,e,rfl,n,rfl⟩
mutual
inductive Den (h:Heap) (O:List Addr) (M:Addr->Prop):Value->D->Prop where
 | none:Den h O M .none .none
 | bool (b:Bool):Den h O M (.bool b) (.bool b)
 | int (i:Int) (t:Tok):Den h O M (.int i t) (.int i)
 | str (x:Str) (t:Tok):Den h O M (.str x t) (.str x)
 | list {a:Addr} {vs:List Value} {ds:List D}:h.PlainList a vs.toArray->¬ M a->am h O M vs ds->Den h O M (.ref a) (.list ds)
 | tup {a:Addr} {vs:List Value} {ds:List D}:g7 h a vs.toArray->¬ M a->am h O M vs ds->Den h O M (.ref a) (.tup ds)
 | ref {a:Addr} {i:Nat}:O[i]? = some a->Den h O M (.ref a) (.ref i)
inductive am (h:Heap) (O:List Addr) (M:Addr->Prop):List Value->List D->Prop where
 | nil:am h O M [] []
 | cons {v:Value} {vs:List Value} {d:D} {ds:List D}:Den h O M v d->am h O M vs ds->am h O M (v :: vs) (d :: ds)
end
variable {h:Heap} {O:List Addr} {M:Addr->Prop} {v:Value}
theorem nE {m:(v:Value)->Den h O M v .none->Prop} (none:m .none .none) (d:Den h O M v .none):m v d:=by cases d;exact none
theorem bE {b:Bool} {m:(v:Value)->Den h O M v (.bool b)->Prop} (bool:m (.bool b) (.bool b)) (d:Den h O M v (.bool b)):m v d:=by cases d;exact bool
theorem iE {i:Int} {m:(v:Value)->Den h O M v (.int i)->Prop} (int:∀ t,m (.int i t) (.int i t)) (d:Den h O M v (.int i)):m v d:=by cases d;exact int _
theorem sE {x:Str} {m:(v:Value)->Den h O M v (.str x)->Prop} (str:∀ t,m (.str x t) (.str x t)) (d:Den h O M v (.str x)):m v d:=by cases d;exact str _
theorem lE {ds:List D} {m:(v:Value)->Den h O M v (.list ds)->Prop} (list:∀ {a:Addr} {vs:List Value} (pl:h.PlainList a vs.toArray) (nm:¬ M a) (dl:am h O M vs ds),m (.ref a) (.list pl nm dl)) (d:Den h O M v (.list ds)):m v d:=by cases d with | list a b c=>exact list a b c
theorem tE {ds:List D} {m:(v:Value)->Den h O M v (.tup ds)->Prop} (tup:∀ {a:Addr} {vs:List Value} (pl:g7 h a vs.toArray) (nm:¬ M a) (dl:am h O M vs ds),m (.ref a) (.tup pl nm dl)) (d:Den h O M v (.tup ds)):m v d:=by cases d with | tup a b c=>exact tup a b c
theorem rE {i:Nat} {m:(v:Value)->Den h O M v (.ref i)->Prop} (ref:∀ {a:Addr} (e:O[i]? = some a),m (.ref a) (.ref e)) (d:Den h O M v (.ref i)):m v d:=by cases d with | ref a=>exact ref a
theorem qE {vs:List Value} {m:(vs:List Value)->am h O M vs []->Prop} (nil:m [] .nil) (d:am h O M vs []):m vs d:=by cases d;exact nil
theorem kE {vs:List Value} {d:D} {ds:List D} {m:(vs:List Value)->am h O M vs (d :: ds)->Prop} (cons:∀ {v:Value} {vs:List Value} (x:Den h O M v d) (y:am h O M vs ds),m (v :: vs) (.cons x y)) (z:am h O M vs (d :: ds)):m vs z:=by cases z with | cons a b=>exact cons a b
structure Wd where
 prog:Program
 w:World
 K:Frag
 mg:Str->Option Value
 mb:Str->Option Value
 tab:Addr
 nb:Nat
 lpos:Pos
 lq:Str
noncomputable def bH (o:Obj):Prop:=∃ vs q t,o.data = .fields vs /\ vs[1]? = some (.str q t)
noncomputable def wM (W:Wd) (h:Heap) (vs:Array Value):Prop:=TriplesOk vs.toList /\ (codeAmong W.lpos vs.toList = none \/ ∃ c,codeAmong W.lpos vs.toList = some (.ref c) /\ h.CodeRec (.ref c) W.lq)
structure Gd (W:Wd) (T:Heap->Prop) (h:Heap):Prop where
 k:W.K.In h
 g:h.Ns mainGlobals W.mg
 b:h.Ns builtinsNs W.mb
 lim:h.NoLimit
 nobook:NoneBooked h
 tab:∃ vs,h.get? W.tab = some (tabObj vs)
 tabok:∀ vs,h.get? W.tab = some (tabObj vs)->wM W h vs
 top:∃ o,h.get? (W.nb - 1) = some o
 more:T h
structure Wok (W:Wd) (T:Heap->Prop):Prop where
 kb:∀ a o,W.K.lookup a = some o->a < W.nb
 gb:mainGlobals < W.nb
 bb:builtinsNs < W.nb
 sb:cStatics < W.nb
 tb:W.tab < W.nb
 bi:∀ x:Str,x ≠ "__name__"->W.mb x = bootBuiltins x
 ktab:W.K.lookup W.tab = none
 keep:∀ h h',T h->(∀ a o,a < W.nb->a ≠ W.tab->h.get? a = some o->h'.get? a = some o)->T h'
noncomputable def Kp (W:Wd) (h h':Heap):Prop:=∀ a o,a ≠ W.tab->h.get? a = some o->h'.get? a = some o
theorem Kp.refl (W:Wd) (h:Heap):Kp W h h:=fun _ _ _ e=>e
theorem Kp.trans {W:Wd} {h h' h'':Heap} (x:Kp W h h') (y:Kp W h' h''):Kp W h h'':=fun a o n e=>y a o n (x a o n e)
theorem Kp.of {W:Wd} {h h':Heap} (k:∀ a o,h.get? a = some o->h'.get? a = some o):Kp W h h':=fun a o _ e=>k a o e
theorem o5 {h h':Heap} {a:Addr} {m:Str->Option Value} (n:h.Ns a m) (k:∀ o,h.get? a = some o->h'.get? a = some o):h'.Ns a m:=
 let ⟨o,es,ep,e,r⟩:=n;⟨o,es,ep,k _ e,r⟩
theorem Gd.base {W:Wd} {T:Heap->Prop} (hW:Wok W T) {h h':Heap} (g:Gd W T h) (k:∀ a o,a < W.nb \/ bH o->h.get? a = some o->h'.get? a = some o):Gd W T h' where
 k:=fun a o e=>k a o (.inl (hW.kb a o e)) (g.k a o e)
 g:=o5 g.g fun o e=>k _ o (.inl hW.gb) e
 b:=o5 g.b fun o e=>k _ o (.inl hW.bb) e
 lim:=let ⟨mc,x,y⟩:=g.lim;⟨mc,o5 x fun o e=>k _ o (.inl hW.sb) e,y⟩
 nobook:=let ⟨mc,x,y⟩:=g.nobook;⟨mc,o5 x fun o e=>k _ o (.inl hW.sb) e,y⟩
 tab:=let ⟨vs,e⟩:=g.tab;⟨vs,k _ _ (.inl hW.tb) e⟩
 tabok:=fun vs e=>by
  obtain ⟨vs',e'⟩:=g.tab;have e'':=k _ _ (.inl hW.tb) e';rw [e] at e'';cases e'';obtain ⟨t,ht⟩:=g.tabok _ e';refine ⟨t,ht.imp id fun ⟨c,q,c',o,vs,u,e1,e2,e3,e4⟩=>⟨c,q,c',o,vs,u,e1,k _ _ (.inr ⟨vs,_,u,e3,e4⟩) e2,e3,e4⟩⟩
 top:=let ⟨o,e⟩:=g.top;⟨o,k _ o (.inl (Nat.sub_lt (Nat.lt_of_le_of_lt (zero_le _) hW.gb) Nat.one_pos)) e⟩
 more:=hW.keep h h' g.more fun a o l _ e=>k a o (.inl l) e
theorem Gd.grown {W:Wd} {T:Heap->Prop} (hW:Wok W T) {h h':Heap} {vs:Array Value} (g:Gd W T h) (k:∀ a o,a ≠ W.tab->h.get? a = some o->h'.get? a = some o) (e:h'.get? W.tab = some (tabObj vs)) (ok:wM W h' vs):Gd W T h' where
 k:=fun a o q=>k a o (fun z=>by rw [z,hW.ktab] at q;cases q) (g.k a o q)
 g:=let ⟨o,es,ep,q,r⟩:=g.g;⟨o,es,ep,k _ _ (fun z=>by obtain ⟨ws,q'⟩:=g.tab;rw [<- z,q] at q';cases q';cases r.1) q,r⟩
 b:=let ⟨o,es,ep,q,r⟩:=g.b;⟨o,es,ep,k _ _ (fun z=>by obtain ⟨ws,q'⟩:=g.tab;rw [<- z,q] at q';cases q';cases r.1) q,r⟩
 lim:=let ⟨mc,⟨o,es,ep,q,r⟩,y⟩:=g.lim;⟨mc,⟨o,es,ep,k _ _ (fun z=>by obtain ⟨ws,q'⟩:=g.tab;rw [<- z,q] at q';cases q';cases r.1) q,r⟩,y⟩
 nobook:=let ⟨mc,⟨o,es,ep,q,r⟩,y⟩:=g.nobook;⟨mc,⟨o,es,ep,k _ _ (fun z=>by obtain ⟨ws,q'⟩:=g.tab;rw [<- z,q] at q';cases q';cases r.1) q,r⟩,y⟩
 tab:=⟨vs,e⟩
 tabok:=fun ws q=>by rw [e] at q;cases q;exact ok
 top:=by
  obtain ⟨o,q⟩:=g.top;by_cases z:W.nb - 1 = W.tab
  ·exact ⟨_,z ▸ e⟩
  ·exact ⟨o,k _ o z q⟩
 more:=hW.keep h h' g.more fun a o _ n q=>k a o n q
theorem Gd.keeps {W:Wd} {T:Heap->Prop} (hW:Wok W T) {h h':Heap} (g:Gd W T h) (k:∀ a o,h.get? a = some o->h'.get? a = some o):Gd W T h':=g.base hW fun a o _ e=>k a o e
theorem Gd.size {W:Wd} {T:Heap->Prop} {h:Heap} (g:Gd W T h):W.nb <= h.objs.size:=by
 obtain ⟨o,e⟩:=g.top;exact Nat.le_of_pred_lt (Heap.lt_size e)
theorem nf {o:Obj} {d:Data} (hd:o.data = d) (h:Nat.beq d.ctorIdx 9 = false) (vs:Array Value):o.data ≠ .fields vs:=fun q=>by rw [<- hd,q] at h;cases h
theorem ns {o:Obj} {d:Data} (hd:o.data = d) (h:Nat.beq d.ctorIdx 2 = false) (xs:Array Value) (k:Nat):o.data ≠ .seq xs k:=fun q=>by rw [<- hd,q] at h;cases h
theorem Gd.ne_tab {W:Wd} {T:Heap->Prop} {h:Heap} (g:Gd W T h) {a:Addr} {o:Obj} (e:h.get? a = some o) (hd:∀ vs,o.data ≠ .fields vs):a ≠ W.tab:=by
 rintro rfl
 obtain ⟨vs,q⟩:=g.tab;rw [e] at q;cases q;exact hd vs rfl
theorem sV {o:Obj} {d:Data} (hd:o.data = d) (h:Nat.beq d.ctorIdx 9 = false):¬ bH o:=fun ⟨vs,_,_,q,_⟩=>nf hd h vs q
theorem jZ {o:Obj} {xs:Array Value} {n:Nat} (e:o.data = .seq xs n):¬ bH o:=sV e rfl
theorem e6 {o:Obj} {es:Array DictEntry} {n:Nat} (e:o.data = .dict es n):¬ bH o:=sV e rfl
theorem cr {o:Obj} {vs:Array Value} (e:o.data = .fields vs) (h:∀ q t,vs[1]? ≠ some (.str q t)):¬ bH o:=fun ⟨_,q,t,e',r⟩=>by rw [e] at e';cases e';exact h q t r
noncomputable def fX (h h':Heap):Prop:=∀ a o xs n,h.get? a = some o->o.data = .seq xs n->h'.get? a = some o
theorem Kp.seq {W:Wd} {T:Heap->Prop} {h h':Heap} (g:Gd W T h) (k:Kp W h h'):fX h h':=fun a o _ _ e hd=>k a o (g.ne_tab e (nf hd rfl)) e
theorem fX.refl (h:Heap):fX h h:=fun _ _ _ _ e _=>e
theorem jl {b:Addr} {h h':Heap} {o:Obj} (hs:Heap.SameBut b h h') (ho:h.get? b = some o) (hd:∀ xs n,o.data ≠ .seq xs n):fX h h':=fun a o' xs n e q=>(hs.2 a (fun z=>by subst z;rw [ho] at e;cases e;exact hd xs n q)).trans e
noncomputable def aN (M:Addr->Prop) (h h':Heap):Prop:=∀ a o xs n,¬ M a->h.get? a = some o->o.data = .seq xs n->h'.get? a = some o
theorem fX.m {M:Addr->Prop} {h h':Heap} (k:fX h h'):aN M h h':=fun a o xs n _ e q=>k a o xs n e q
variable {h':Heap} {O':List Addr} {M':Addr->Prop} {p:D->Bool} {pl:List D->Bool}
theorem Den.tr (h1:∀ ds,p (.list ds) = true->pl ds = true) (h2:∀ ds,p (.tup ds) = true->pl ds = true) (h3:∀ d ds,pl (d :: ds) = true->p d = true /\ pl ds = true) (hs:∀ a o xs n,¬ M a->h.get? a = some o->o.data = .seq xs n->h'.get? a = some o /\ ¬ M' a)
  (hr:∀ i a,p (.ref i) = true->O[i]? = some a->O'[i]? = some a) {v:Value} {d:D} (x:Den h O M v d):p d = true->Den h' O' M' v d:=
 Den.rec (motive_1:=fun v d _=>p d = true->Den h' O' M' v d) (motive_2:=fun vs ds _=>pl ds = true->am h' O' M' vs ds) (fun _=>.none) (fun b _=>.bool b) (fun i t _=>.int i t) (fun x t _=>.str x t)
  (fun pn nm _ ih e=>let ⟨_,q⟩:=pn;.list ⟨_,(hs _ _ _ _ nm q rfl).1⟩ (hs _ _ _ _ nm q rfl).2 (ih (h1 _ e))) (fun pn nm _ ih e=>let ⟨_,q⟩:=pn;.tup ⟨_,(hs _ _ _ _ nm q rfl).1⟩ (hs _ _ _ _ nm q rfl).2 (ih (h2 _ e))) (fun q e=>.ref (hr _ _ e q))
  (fun _=>.nil) (fun _ _ ih1 ih2 e=>.cons (ih1 (h3 _ _ e).1) (ih2 (h3 _ _ e).2)) x
theorem am.tr (h1:∀ ds,p (.list ds) = true->pl ds = true) (h2:∀ ds,p (.tup ds) = true->pl ds = true) (h3:∀ d ds,pl (d :: ds) = true->p d = true /\ pl ds = true) (hs:∀ a o xs n,¬ M a->h.get? a = some o->o.data = .seq xs n->h'.get? a = some o /\ ¬ M' a)
  (hr:∀ i a,p (.ref i) = true->O[i]? = some a->O'[i]? = some a):∀ {ds:List D} {vs:List Value},am h O M vs ds->pl ds = true->am h' O' M' vs ds:=fun {ds}=>by
 induction ds with
 | nil=>intro vs x _;induction x using qE;exact .nil
 | cons d ds ih=>
  intro vs x e
  induction x using kE with
  | cons x y=>exact .cons (x.tr h1 h2 h3 hs hr (h3 _ _ e).1) (ih y (h3 _ _ e).2)
theorem Den.kseqM (k:aN M h h') (ho:∀ (i:Nat) (a:Addr),O[i]? = some a->O'[i]? = some a) (hm:∀ a,M' a->(h.get? a).isSome->M a) {v:Value} {d:D} (x:Den h O M v d):Den h' O' M' v d:=
 x.tr (p:=fun _=>true) (pl:=fun _=>true) (fun _ _=>rfl) (fun _ _=>rfl) (fun _ _ _=>⟨rfl,rfl⟩) (fun a o xs n q e r=>⟨k a o xs n q e r,fun m=>q (hm a m (by rw [e];rfl))⟩) (fun i a _=>ho i a) rfl
theorem am.kseqM (k:aN M h h') (ho:∀ (i:Nat) (a:Addr),O[i]? = some a->O'[i]? = some a) (hm:∀ a,M' a->(h.get? a).isSome->M a) {vs:List Value} {ds:List D} (x:am h O M vs ds):am h' O' M' vs ds:=
 x.tr (p:=fun _=>true) (pl:=fun _=>true) (fun _ _=>rfl) (fun _ _=>rfl) (fun _ _ _=>⟨rfl,rfl⟩) (fun a o xs n q e r=>⟨k a o xs n q e r,fun m=>q (hm a m (by rw [e];rfl))⟩) (fun i a _=>ho i a) rfl
theorem Den.kseq {h h':Heap} {O O':List Addr} {M M':Addr->Prop} (k:fX h h') (ho:∀ (i:Nat) (a:Addr),O[i]? = some a->O'[i]? = some a) (hm:∀ a,M' a->(h.get? a).isSome->M a) {v:Value} {d:D} (x:Den h O M v d):Den h' O' M' v d:=x.kseqM k.m ho hm
theorem am.kseq {h h':Heap} {O O':List Addr} {M M':Addr->Prop} (k:fX h h') (ho:∀ (i:Nat) (a:Addr),O[i]? = some a->O'[i]? = some a) (hm:∀ a,M' a->(h.get? a).isSome->M a) {v:List Value} {d:List D} (x:am h O M v d):am h' O' M' v d:=x.kseqM k.m ho hm
theorem Den.step {W:Wd} {T:Heap->Prop} {h h':Heap} {O O':List Addr} {M M':Addr->Prop} (g:Gd W T h) (k:Kp W h h') (ho:∀ (i:Nat) (a:Addr),O[i]? = some a->O'[i]? = some a) (hm:∀ a,M' a->(h.get? a).isSome->M a) {v:Value} {d:D}
  (x:Den h O M v d):Den h' O' M' v d:=x.kseq (k.seq g) ho hm
theorem am.step {W:Wd} {T:Heap->Prop} {h h':Heap} {O O':List Addr} {M M':Addr->Prop} (g:Gd W T h) (k:Kp W h h') (ho:∀ (i:Nat) (a:Addr),O[i]? = some a->O'[i]? = some a) (hm:∀ a,M' a->(h.get? a).isSome->M a) {vs:List Value} {ds:List D}
  (x:am h O M vs ds):am h' O' M' vs ds:=x.kseq (k.seq g) ho hm
theorem Den.kq {h h':Heap} {O:List Addr} {M:Addr->Prop} (k:aN M h h') {v:Value} {d:D} (x:Den h O M v d):Den h' O M v d:=x.kseqM k (fun _ _ e=>e) fun _ m _=>m
theorem am.kq {h h':Heap} {O:List Addr} {M:Addr->Prop} (k:aN M h h') {v:List Value} {d:List D} (x:am h O M v d):am h' O M v d:=x.kseqM k (fun _ _ e=>e) fun _ m _=>m
theorem Den.kr {h h':Heap} {O:List Addr} {M:Addr->Prop} (k:fX h h') {v:Value} {d:D} (x:Den h O M v d):Den h' O M v d:=x.kq k.m
theorem am.kr {h h':Heap} {O:List Addr} {M:Addr->Prop} (k:fX h h') {v:List Value} {d:List D} (x:am h O M v d):am h' O M v d:=x.kq k.m
theorem Den.st {W:Wd} {T:Heap->Prop} {h h':Heap} {O:List Addr} {M:Addr->Prop} (g:Gd W T h) (k:Kp W h h') {v:Value} {d:D} (x:Den h O M v d):Den h' O M v d:=x.kr (k.seq g)
theorem am.st {W:Wd} {T:Heap->Prop} {h h':Heap} {O:List Addr} {M:Addr->Prop} (g:Gd W T h) (k:Kp W h h') {v:List Value} {d:List D} (x:am h O M v d):am h' O M v d:=x.kr (k.seq g)
theorem am.length {h:Heap} {O:List Addr} {M:Addr->Prop} {vs:List Value} {ds:List D} (x:am h O M vs ds):vs.length = ds.length:=by
 induction ds generalizing vs with
 | nil=>induction x using qE;rfl
 | cons d ds ih=>induction x using kE with
  | cons x y=>exact congrArg Nat.succ (ih y)
noncomputable def Fx (env:Env) (a:Addr):Prop:=a = env.locals \/ ∃ x,env.cells.lookup x = some a
structure Fm (W:Wd) (h:Heap) (env:Env) (vm:Str->Option Value):Prop where
 kind:env.scope.kind = .function
 glob:env.globals = mainGlobals
 blt:env.builtins = builtinsNs
 loc:∃ m,h.Ns env.locals m /\ ∀ x,env.kindOf x = some .local->m x = vm x
 cell:∀ x c,env.cells.lookup x = some c->h.IsCell c (vm x)
 apart:∀ x y c,env.cells.lookup x = some c->env.cells.lookup y = some c->x = y
 above:∀ a,Fx env a->W.nb <= a
 nocell:∀ x c,env.kindOf x = some .local->env.cells.lookup x = some c->False
theorem Fm.kept {W:Wd} {T:Heap->Prop} {h h':Heap} {env:Env} {vm:Str->Option Value} (g:Gd W T h) (F:Fm W h env vm) (k:∀ a o,Fx env a->a ≠ W.tab->h.get? a = some o->h'.get? a = some o):Fm W h' env vm:=
 ⟨F.kind,F.glob,F.blt,let ⟨m,⟨o,es,ep,ho,hd,r⟩,hm⟩:=F.loc;⟨m,⟨o,es,ep,k _ o (.inl rfl) (g.ne_tab ho (nf hd rfl)) ho,hd,r⟩,hm⟩,
  fun x c e=>let ⟨o,ho,hd⟩:=F.cell x c e;⟨o,k _ o (.inr ⟨x,e⟩) (g.ne_tab ho (nf hd rfl)) ho,hd⟩,F.apart,F.above,F.nocell⟩
theorem Fm.step {W:Wd} {T:Heap->Prop} {h h':Heap} {env:Env} {vm:Str->Option Value} (g:Gd W T h) (k:Kp W h h') (F:Fm W h env vm):Fm W h' env vm:=F.kept g fun a o _ ht e=>k a o ht e
noncomputable def upd {α:Type} (m:Str->Option α) (x:Str) (v:α):Str->Option α:=fun y=>if y = x then some v else m y
noncomputable def Sto (env:Env) (x:Str):Bool:=match env.kindOf x with
 | some .local=>true
 | some .cell=>(env.cells.lookup x).isSome
 | _=>false
noncomputable def bz (h:Heap) (O:List Addr) (M:Addr->Prop) (vm:Str->Option Value) (μ:Str->Option D):Prop:=∀ x d,μ x = some d->∃ v,vm x = some v /\ Den h O M v d
theorem bz.kq {h h':Heap} {O:List Addr} {M:Addr->Prop} {vm:Str->Option Value} {μ:Str->Option D} (k:aN M h h') (V:bz h O M vm μ):bz h' O M vm μ:=
 fun x d e=>let ⟨v,a,b⟩:=V x d e;⟨v,a,b.kq k⟩
theorem bz.upd {h:Heap} {O:List Addr} {M:Addr->Prop} {vm:Str->Option Value} {μ:Str->Option D} {x:Str} {v:Value} {d:D} (dv:Den h O M v d) (V:bz h O M vm μ):bz h O M (upd vm x v) (upd μ x d):=fun y e hy=>by
 unfold Mine.upd at hy ⊢;by_cases q:y = x
 ·rw [if_pos q] at hy ⊢;exact ⟨v,rfl,Option.some.inj hy ▸ dv⟩
 ·rw [if_neg q] at hy ⊢;exact V y e hy
theorem bz.step {W:Wd} {T:Heap->Prop} {h h':Heap} {O O':List Addr} {M M':Addr->Prop} {vm:Str->Option Value} {μ:Str->Option D} (g:Gd W T h) (k:Kp W h h') (ho:∀ (i:Nat) (a:Addr),O[i]? = some a->O'[i]? = some a)
  (hm:∀ a,M' a->(h.get? a).isSome->M a) (V:bz h O M vm μ):bz h' O' M' vm μ:=
 fun x d e=>let ⟨v,a,b⟩:=V x d e;⟨v,a,b.step g k ho hm⟩
theorem bz.st {W:Wd} {T:Heap->Prop} {h h':Heap} {O:List Addr} {M:Addr->Prop} {vm:Str->Option Value} {μ:Str->Option D} (g:Gd W T h) (k:Kp W h h') (V:bz h O M vm μ):bz h' O M vm μ:=V.step g k (fun _ _ e=>e) fun _ m _=>m
structure aL (n:Nat) (A:Around):Prop where
 handled:A.handled = Option.none
 depth:A.depth + n + 1 < recursionLimit
 units:A.units + 50 * (n + 1) < cLine
theorem aL.le {n m:Nat} {A:Around} (r:aL n A) (h:m <= n):aL m A:=⟨r.handled,by have:=r.depth;omega,by have:=r.units;omega⟩
theorem aL.deeper {n:Nat} {A:Around} (r:aL (n + 1) A) (env:Env):aL n (A.deeper env):=⟨r.handled,by have:=r.depth;show A.depth + 1 + n + 1 < _;omega,by have:=r.units;show A.units + 3 + _ < _;omega⟩
theorem aL.lim {n:Nat} {A:Around} (r:aL n A):A.depth < recursionLimit:=by have:=r.depth;omega
theorem aL.c {n:Nat} {A:Around} (r:aL n A):A.units < cLine:=by have:=r.units;omega
structure Ok (W:Wd) (T:Heap->Prop) (M:Addr->Prop) (s:Shared):Prop where
 gd:Gd W T s.heap
 live:∀ a,M a->a ≠ W.tab /\ (s.heap.get? a).isSome
 tk:0 <= s.toks
structure Stp (W:Wd) (T:Heap->Prop) (h h':Heap):Prop where
 kp:Kp W h h'
 gd:Gd W T h'
theorem Stp.refl {W:Wd} {T:Heap->Prop} {h:Heap} (g:Gd W T h):Stp W T h h:=⟨.refl W h,g⟩
theorem Stp.trans {W:Wd} {T:Heap->Prop} {h h' h'':Heap} (x:Stp W T h h') (y:Stp W T h' h''):Stp W T h h'':=⟨x.kp.trans y.kp,y.gd⟩
theorem Stp.of {W:Wd} {T:Heap->Prop} (hW:Wok W T) {h h':Heap} (g:Gd W T h) (k:∀ a o,h.get? a = some o->h'.get? a = some o):Stp W T h h':=⟨.of k,g.keeps hW k⟩
theorem Ok.step {W:Wd} {T:Heap->Prop} {M:Addr->Prop} {s:Shared} {h':Heap} {tk:Nat} (k:Ok W T M s) (le:s.toks <= tk) (x:Stp W T s.heap h'):Ok W T M { s with heap:=h',toks:=tk }:=
 ⟨x.gd,fun a m=>⟨(k.live a m).1,by
  obtain ⟨o,e⟩:=Option.isSome_iff_exists.mp (k.live a m).2;exact Option.isSome_iff_exists.mpr ⟨o,x.kp a o (k.live a m).1 e⟩⟩,Nat.le_trans k.tk le⟩
section
variable (W:Wd) (T:Heap->Prop)
structure EVP (n:Nat) (env:Env) (μ:Str->Option D) (e:Expr) (d:D):Prop where
 of ::
 run:∀ (A:Around) (s:Shared) (vm:Str->Option Value) (O:List Addr) (M:Addr->Prop),aL n A->Ok W T M s->Fm W s.heap env vm->bz s.heap O M vm μ->
  ∀ (Q E:Value->Shared->Prop),(∀ v h' tk,s.toks <= tk->Stp W T s.heap h'->Den h' O M v d->Q v { s with heap:=h',toks:=tk })->wpAny (model W.prog W.w) A (eval e env) Q E s
structure TST (n:Nat) (env:Env) (μ:Str->Option D) (e:Expr) (b:Bool):Prop where
 of ::
 run:∀ (A:Around) (s:Shared) (vm:Str->Option Value) (O:List Addr) (M:Addr->Prop),aL n A->Ok W T M s->Fm W s.heap env vm->bz s.heap O M vm μ->
  ∀ (Q:Bool->Shared->Prop) (E:Value->Shared->Prop),(∀ h' tk,s.toks <= tk->Stp W T s.heap h'->Q b { s with heap:=h',toks:=tk })->wpAny (model W.prog W.w) A (isTrue e env (eval e env)) Q E s
structure FP (n:Nat) (f:Value) (args:List D) (d:D):Prop where
 of ::
 run:∀ (A:Around) (s:Shared) (O:List Addr) (M:Addr->Prop) (vals:List Value),aL n A->Ok W T M s->am s.heap O M vals args->
  ∀ (Q E:Value->Shared->Prop),(∀ v h' tk,s.toks <= tk->Stp W T s.heap h'->Den h' O M v d->Q v { s with heap:=h',toks:=tk })->wpAny (model W.prog W.w) A (call f vals) Q E s
end
variable {W:Wd} {T:Heap->Prop} {n:Nat} {env:Env} {μ:Str->Option D}
theorem EVP.le {e:Expr} {d:D} {m:Nat} (h:EVP W T n env μ e d) (hm:n <= m):EVP W T m env μ e d:=
 .of fun A s vm O M r k F V Q E q=>h.run A s vm O M (r.le hm) k F V Q E q
theorem FP.le {f:Value} {as:List D} {d:D} {m:Nat} (h:FP W T n f as d) (hm:n <= m):FP W T m f as d:=
 .of fun A s O M vs r k V Q E q=>h.run A s O M vs (r.le hm) k V Q E q
noncomputable def lx (env:Env) (x:Str):Bool:=(env.kindOf x == some .local || ((env.cells.lookup x).isSome && (env.kindOf x == some .cell || (env.kindOf x == some .free && !(x == ("__classdict__" : Str)))))) && !(x == ("__debug__" : Str))
theorem y9 {x:Str} (h:lx env x = true):(env.kindOf x = some .local \/ (env.kindOf x = some .cell /\ (env.cells.lookup x).isSome = true) \/ (env.kindOf x = some .free /\ (env.cells.lookup x).isSome = true /\ (x == ("__classdict__" : Str)) = false)) /\ (x == ("__debug__" : Str)) = false:=by
 unfold lx at h;simp only [Bool.and_eq_true,Bool.or_eq_true,beq_iff_eq,Bool.not_eq_true'] at h;exact ⟨h.1.imp id fun h=>h.2.imp (fun q=>⟨q,h.1⟩) fun q=>⟨q.1,h.1,q.2⟩,h.2⟩
theorem dX {x:Str} (h:env.kindOf x = some .local) (hd:(x == ("__debug__" : Str)) = false):lx env x = true:=by
 unfold lx;rw [h,hd];rfl
theorem aa {x:Str} {pos:Pos} {d:D} (hx:μ x = some d) (hk:lx env x = true):EVP W T n env μ (.Name x pos) d:=by
 obtain ⟨hk,hd⟩:=y9 hk;refine .of ?_;intro A s vm O M r k F V Q E q;obtain ⟨v,hv,dv⟩:=V x d hx;have q':=q v s.heap s.toks (Nat.le_refl _) (.refl k.gd) dv;refine wpAny_Name ?_ hd
 rcases hk with hl | ⟨hl,hc⟩ | ⟨hl,hc,hn⟩
 ·obtain ⟨m,hns,hm⟩:=F.loc;exact wpAny_loadName_local F.kind hl hns ((hm x hl).trans hv) q'
 ·obtain ⟨c,hc⟩:=Option.isSome_iff_exists.mp hc;exact wpAny_loadName_cell F.kind hl hc (hv ▸ F.cell x c hc) q'
 ·obtain ⟨c,hc⟩:=Option.isSome_iff_exists.mp hc;exact wpAny_loadName_free F.kind hl hc (hv ▸ F.cell x c hc) q' hn
theorem aq {i:Int} {k:Nat} {pos:Pos}:EVP W T n env μ (.Constant (.int i) k pos) (.int i):=
 .of fun _ _ _ _ _ _ k _ _ _ _ q=>wpAny_Constant_int (q _ _ _ (le_succ _) (.refl k.gd) (.int ..))
theorem bl {x:Str} {k:Nat} {pos:Pos}:EVP W T n env μ (.Constant (.str x) k pos) (.str x):=
 .of fun _ s _ _ _ _ k _ _ Q _ q=>fun _ _ _=>(q _ s.heap _ (le_succ _) (.refl k.gd) (.str ..):Q (.str x s.toks) { s with toks:=s.toks + 1 })
theorem rr {b:Bool} {k:Nat} {pos:Pos}:EVP W T n env μ (.Constant (.bool b) k pos) (.bool b):=
 .of fun _ s _ _ _ _ k _ _ Q _ q=>fun _ _ _=>(q _ s.heap _ (Nat.le_refl _) (.refl k.gd) (.bool ..):Q (.bool b) s)
theorem cH {k:Nat} {pos:Pos}:EVP W T n env μ (.Constant .none k pos) .none:=
 .of fun _ s _ _ _ _ k _ _ Q _ q=>fun _ _ _=>(q _ s.heap _ (Nat.le_refl _) (.refl k.gd) .none:Q .none s)
structure OPP (W:Wd) (T:Heap->Prop) (op:Operator) (a b d:D):Prop where
 of ::
 run:∀ (A:Around) (s:Shared) (O:List Addr) (M:Addr->Prop) (x y:Value),A.handled = .none->A.units < cLine->Ok W T M s->Den s.heap O M x a->Den s.heap O M y b->
  ∀ (Q E:Value->Shared->Prop),(∀ v h' tk,s.toks <= tk->Stp W T s.heap h'->Den h' O M v d->Q v { s with heap:=h',toks:=tk })->wpAny (model W.prog W.w) A (binaryOp op x y) Q E s
structure CMP (W:Wd) (T:Heap->Prop) (op:CmpOp) (a b:D) (t:Bool):Prop where
 of ::
 run:∀ (A:Around) (s:Shared) (O:List Addr) (M:Addr->Prop) (x y:Value),A.handled = .none->A.units + 40 < cLine->Ok W T M s->Den s.heap O M x a->Den s.heap O M y b->
  ∀ (Q E:Value->Shared->Prop),(∀ h' tk,s.toks <= tk->Stp W T s.heap h'->Q (.bool t) { s with heap:=h',toks:=tk })->wpAny (model W.prog W.w) A (compareOp op x y) Q E s
theorem av {l r:Expr} {op:Operator} {pos:Pos} {a b d:D} (hl:EVP W T n env μ l a) (hr:EVP W T n env μ r b) (ho:OPP W T op a b d):EVP W T n env μ (.BinOp l op r pos) d:=by
 refine .of ?_;intro A s vm O M rm k F V Q E q;refine wpAny_BinOp (hl.run A s vm O M rm k F V _ _ fun x h1a tA lA sI dA=>?_)
 have kI:=k.step lA sI;refine hr.run A _ vm O M rm kI (F.step k.gd sI.kp) (V.st k.gd sI.kp) _ _ fun y hJ tJ lB sB dB=>?_
 exact ho.run A _ O M x y rm.handled rm.c (kI.step lB sB) (dA.st sI.gd sB.kp) dB Q E fun v h3a tC l3 sC d3=>q v h3a tC (Nat.le_trans lA (Nat.le_trans lB l3)) (sI.trans (sB.trans sC)) d3
theorem iR {l r:Expr} {op:CmpOp} {pos:Pos} {a b:D} {t:Bool} (hl:EVP W T n env μ l a) (hr:EVP W T n env μ r b) (ho:CMP W T op a b t) (hm:autoParam (behindInMarks op r = false) wuT) :
  EVP W T n env μ (.Compare l [op] [r] pos) (.bool t):=by
 refine .of ?_;intro A s vm O M rm k F V Q E q;refine wpAny_Compare1 (hl.run A s vm O M rm k F V _ _ fun x h1a tA lA sI dA=>?_) hm
 have kI:=k.step lA sI;refine hr.run A _ vm O M rm kI (F.step k.gd sI.kp) (V.st k.gd sI.kp) _ _ fun y hJ tJ lB sB dB=>?_
 exact ho.run A _ O M x y rm.handled (by have:=rm.units;omega) (kI.step lB sB) (dA.st sI.gd sB.kp) dB Q E fun h3a tC l3 sC=>q _ h3a tC (Nat.le_trans lA (Nat.le_trans lB l3)) (sI.trans (sB.trans sC)) (.bool t)
theorem au {l r:Expr} {op:CmpOp} {pos:Pos} {a b:D} {t:Bool} (hl:EVP W T n env μ l a) (hr:EVP W T n env μ r b) (ho:CMP W T op a b t) (hm:autoParam (behindInMarks op r = false) wuT) :
  TST W T n env μ (.Compare l [op] [r] pos) t:=by
 refine .of ?_;intro A s vm O M rm k F V Q E q;refine wpAny_isTrue_Compare1 (hl.run A s vm O M rm k F V _ _ fun x h1a tA lA sI dA=>?_) hm
 have kI:=k.step lA sI;refine hr.run A _ vm O M rm kI (F.step k.gd sI.kp) (V.st k.gd sI.kp) _ _ fun y hJ tJ lB sB dB=>?_
 exact ho.run A _ O M x y rm.handled (by have:=rm.units;omega) (kI.step lB sB) (dA.st sI.gd sB.kp) dB _ E fun h3a tC l3 sC=>wpAny_truthy_bool (q h3a tC (Nat.le_trans lA (Nat.le_trans lB l3)) (sI.trans (sB.trans sC)))
theorem q4 {p q:Bool}:OPP W T .Sub (.bool p) (.bool q) (.int (b2i p - b2i q)):=by
 refine .of ?_;intro A s O M x y _ _ k dx dy Q E hQ;induction dx using bE;induction dy using bE;exact sub_bool (hQ _ s.heap _ (le_succ _) (.refl k.gd) (.int ..))
theorem bu {a b:Int}:OPP W T .Add (.int a) (.int b) (.int (a + b)):=by
 refine .of ?_;intro A s O M x y _ _ k dx dy Q E hQ;induction dx using iE;induction dy using iE;exact PyProof.Rows.add_int (hQ _ s.heap _ (le_succ _) (.refl k.gd) (.int ..))
theorem sy {a b:Str}:CMP W T .Lt (.str a) (.str b) (a.cps.toList < b.cps.toList):=by
 refine .of ?_;intro A s O M x y _ _ k dx dy Q E hQ;induction dx using sE;induction dy using sE;exact PyProof.Rows.lt_str (hQ s.heap _ (Nat.le_refl _) (.refl k.gd))
theorem sM {a b:Str}:CMP W T .Gt (.str a) (.str b) (b.cps.toList < a.cps.toList):=by
 refine .of ?_;intro A s O M x y _ _ k dx dy Q E hQ;induction dx using sE;induction dy using sE;exact P.gt_str (hQ s.heap _ (Nat.le_refl _) (.refl k.gd))
end
mutual
noncomputable def D.nr:D->Bool
 | .none | .bool _ | .int _ | .str _=>true
 | .list ds=>D.nrL ds
 | .tup ds=>D.nrL ds
 | .ref _=>false
noncomputable def D.nrL:List D->Bool
 | []=>true
 | d :: ds=>D.nr d && D.nrL ds
end
theorem r6 (ds:List D) (e:(D.list ds).nr = true):D.nrL ds = true:=by rw [D.nr] at e;exact e
theorem tU (ds:List D) (e:(D.tup ds).nr = true):D.nrL ds = true:=by rw [D.nr] at e;exact e
theorem rt (d:D) (ds:List D) (e:D.nrL (d :: ds) = true):d.nr = true /\ D.nrL ds = true:=by rw [D.nrL,Bool.and_eq_true] at e;exact e
variable {h:Heap} {O O':List Addr} {M:Addr->Prop} {v:Value} {d:D}
theorem Den.nr (x:Den h O M v d) (e:d.nr = true):Den h O' M v d:=x.tr r6 tU rt (fun _ _ _ _ q e _=>⟨e,q⟩) (fun _ _ e=>by cases e) e
variable {vs:List Value} {ds:List D}
theorem am.nr (x:am h O M vs ds) (e:D.nrL ds = true):am h O' M vs ds:=x.tr r6 tU rt (fun _ _ _ _ q e _=>⟨e,q⟩) (fun _ _ e=>by cases e) e
inductive ac where
 | gone
 | mlist (ds:List D)
 | mns (m:List (Str × D))
 | minst (C:Addr) (j:Nat) (ss:List (Option D))
 | mdict (kvs:List (Str × D)) (ep:Option Nat)
 | mset (ks:List Str)
 | mliter (i k:Nat)
 | mkiter (i k n ep:Nat)
 | mwrap (i:Nat)
 | mframe (env:Env) (m:Str->Option Value)
inductive fj (h:Heap) (O:List Addr) (M:Addr->Prop):Option Value->Option D->Prop where
 | none:fj h O M .none .none
 | some {v:Value} {d:D}:Den h O M v d->fj h O M (.some v) (.some d)
inductive bQ (h:Heap) (O:List Addr) (M:Addr->Prop):List (Option Value)->List (Option D)->Prop where
 | nil:bQ h O M [] []
 | cons {v:Option Value} {vs:List (Option Value)} {d:Option D} {ds:List (Option D)}:fj h O M v d->bQ h O M vs ds->bQ h O M (v :: vs) (d :: ds)
inductive bY (h:Heap) (O:List Addr) (M:Addr->Prop):List (Str × Value)->List (Str × D)->Prop where
 | nil:bY h O M [] []
 | cons {k:Str} {v:Value} {vs:List (Str × Value)} {d:D} {ds:List (Str × D)}:Den h O M v d->bY h O M vs ds->bY h O M ((k,v) :: vs) ((k,d) :: ds)
variable {h':Heap} {M':Addr->Prop}
theorem jh (k:aN M h h') (ho:∀ (i:Nat) (a:Addr),O[i]? = some a->O'[i]? = some a) (hm:∀ a,M' a->(h.get? a).isSome->M a) {v:Option Value} {d:Option D} (x:fj h O M v d):fj h' O' M' v d:=by
 cases x with
 | none=>exact .none
 | some y=>exact .some (y.kseqM k ho hm)
theorem bQ.kseqM (k:aN M h h') (ho:∀ (i:Nat) (a:Addr),O[i]? = some a->O'[i]? = some a) (hm:∀ a,M' a->(h.get? a).isSome->M a) {v:List (Option Value)} {d:List (Option D)} (x:bQ h O M v d):bQ h' O' M' v d:=by
 induction x with
 | nil=>exact .nil
 | cons y _ ih=>exact .cons (jh k ho hm y) ih
theorem bY.kseqM (k:aN M h h') (ho:∀ (i:Nat) (a:Addr),O[i]? = some a->O'[i]? = some a) (hm:∀ a,M' a->(h.get? a).isSome->M a) {v:List (Str × Value)} {d:List (Str × D)} (x:bY h O M v d):bY h' O' M' v d:=by
 induction x with
 | nil=>exact .nil
 | cons y _ ih=>exact .cons (y.kseqM k ho hm) ih
theorem bQ.kq (k:aN M h h') {v:List (Option Value)} {d:List (Option D)} (x:bQ h O M v d):bQ h' O M v d:=x.kseqM k (fun _ _ e=>e) fun _ m _=>m
theorem bY.kq (k:aN M h h') {v:List (Str × Value)} {d:List (Str × D)} (x:bY h O M v d):bY h' O M v d:=x.kseqM k (fun _ _ e=>e) fun _ m _=>m
noncomputable def e8 (it:Addr):Obj:={ cls:=.type "method-wrapper",data:=.fields #[.builtin "list_iterator.__next__",.ref it] }
noncomputable def jd (C dx:Addr) (vs:List (Option Value)):Obj:={ cls:=.ref C,dict:=some dx,data:=.plain,slots:=vs.toArray }
noncomputable def Obs (W:Wd) (h:Heap) (O:List Addr) (M:Addr->Prop) (a:Addr):ac->Prop
 | .gone=>True
 | .mlist ds=>∃ vs,h.PlainList a vs.toArray /\ am h O M vs ds
 | .mns m=>∃ vm,h.Ns1 a vm /\ ∀ x,fj h O M (vm x) (m.lookup x)
 | .minst C j ss=>∃ dx vs,h.get? a = some (jd C dx vs) /\ O[j]? = some dx /\ bQ h O M vs ss
 | .mdict kvs ep=>∃ vk e,h.DictAt (strKind W.prog W.w) a vk e /\ (∀ e',ep = some e'->e' = e) /\ bY h O M vk kvs
 | .mset ks=>∃ n,n <= ks.length /\ h.SetOf (strKind W.prog W.w) a (fun k=>decide (k ∈ ks)) n
 | .mliter i k=>∃ l,O[i]? = some l /\ h.IsListIter a l k
 | .mkiter i k n ep=>∃ d,O[i]? = some d /\ h.IsKeyIter a d k n ep
 | .mwrap i=>∃ it,O[i]? = some it /\ h.get? a = some (e8 it)
 | .mframe env m=>env.frame = some a /\ env.scope.kind = .function /\ h.Ns a m
variable {W:Wd}
theorem Obs.rec {a:Addr} {o:ac} (x:Obs W h O M a o) (ho:o ≠ .gone):∃ ob,h.get? a = some ob /\ ¬ bH ob /\ ∀ vs,ob ≠ tabObj vs:=by
 cases o with
 | gone=>exact absurd rfl ho
 | mlist ds=>obtain ⟨vs,⟨n,e⟩,_⟩:=x;exact ⟨_,e,jZ rfl,fun _ q=>by cases q⟩
 | mns m=>obtain ⟨vm,⟨o,es,ep,e,hd,_⟩,_⟩:=x;exact ⟨o,e,e6 hd,fun _ q=>by rw [q] at hd;cases hd⟩
 | minst C j ss=>obtain ⟨dx,vs,e,_⟩:=x;exact ⟨_,e,(fun ⟨_,_,_,q,_⟩=>by cases q),fun _ q=>by cases q⟩
 | mdict kvs ep=>obtain ⟨vk,_,⟨o,es,e,_,hd,_⟩,_⟩:=x;exact ⟨o,e,e6 hd,fun _ q=>by rw [q] at hd;cases hd⟩
 | mset ks=>obtain ⟨n,_,o,es,ep,t,e,_,hd,_⟩:=x;exact ⟨o,e,(fun ⟨_,_,_,q,_⟩=>by rw [hd] at q;cases q),fun _ q=>by rw [q] at hd;cases hd⟩
 | mliter i k=>obtain ⟨l,_,o,e,hc,hd⟩:=x;exact ⟨o,e,cr hd fun q t z=>by simp at z,fun _ q=>by rw [q] at hc;cases hc⟩
 | mkiter i k n ep=>obtain ⟨l,_,o,e,hc,hd⟩:=x;exact ⟨o,e,cr hd fun q t z=>by simp at z,fun _ q=>by rw [q] at hc;cases hc⟩
 | mwrap i=>obtain ⟨l,_,e⟩:=x;exact ⟨_,e,cr rfl fun q t z=>by simp at z,fun _ q=>by cases q⟩
 | mframe env m=>obtain ⟨_,_,o,es,ep,e,hd,_⟩:=x;exact ⟨o,e,e6 hd,fun _ q=>by rw [q] at hd;cases hd⟩
theorem Obs.move {a:Addr} {o:ac} (ha:o ≠ .gone->∀ ob,h.get? a = some ob->h'.get? a = some ob) (k:aN M h h') (ho:∀ (i:Nat) (a:Addr),O[i]? = some a->O'[i]? = some a)
  (hm:∀ a,M' a->(h.get? a).isSome->M a) (x:Obs W h O M a o):Obs W h' O' M' a o:=by
 cases o with
 | gone=>exact trivial
 | mlist ds=>obtain ⟨vs,⟨n,e⟩,y⟩:=x;exact ⟨vs,⟨n,ha (fun q=>by cases q) _ e⟩,y.kseqM k ho hm⟩
 | mns m=>obtain ⟨vm,⟨o,es,ep,e,r⟩,y⟩:=x;exact ⟨vm,⟨o,es,ep,ha (fun q=>by cases q) _ e,r⟩,fun x=>jh k ho hm (y x)⟩
 | minst C j ss=>obtain ⟨dx,vs,e,e2,y⟩:=x;exact ⟨dx,vs,ha (fun q=>by cases q) _ e,ho _ _ e2,y.kseqM k ho hm⟩
 | mdict kvs ep=>obtain ⟨vk,eZ,⟨o,es,e,r⟩,rB,y⟩:=x;exact ⟨vk,eZ,⟨o,es,ha (fun q=>by cases q) _ e,r⟩,rB,y.kseqM k ho hm⟩
 | mset ks=>obtain ⟨n,hn,o,es,ep,t,e,r⟩:=x;exact ⟨n,hn,o,es,ep,t,ha (fun q=>by cases q) _ e,r⟩
 | mliter i k=>obtain ⟨l,e2,o,e,r⟩:=x;exact ⟨l,ho _ _ e2,o,ha (fun q=>by cases q) _ e,r⟩
 | mkiter i k n ep=>obtain ⟨l,e2,o,e,r⟩:=x;exact ⟨l,ho _ _ e2,o,ha (fun q=>by cases q) _ e,r⟩
 | mwrap i=>obtain ⟨l,e2,e⟩:=x;exact ⟨l,ho _ _ e2,ha (fun q=>by cases q) _ e⟩
 | mframe env m=>obtain ⟨e1,e2,o,es,ep,e,r⟩:=x;exact ⟨e1,e2,o,es,ep,ha (fun q=>by cases q) _ e,r⟩
noncomputable def bf (O:List Addr) (Θ:List ac) (a:Addr):Prop:=∃ (i:Nat) (o:ac),O[i]? = some a /\ Θ[i]? = some o /\ o ≠ .gone
noncomputable def Mx (M0:Addr->Prop) (O:List Addr) (Θ:List ac) (a:Addr):Prop:=M0 a \/ bf O Θ a
noncomputable def KpX (W:Wd) (X:Addr->Prop) (h h':Heap):Prop:=∀ a o,a ≠ W.tab->¬ X a->h.get? a = some o->h'.get? a = some o
variable {X:Addr->Prop}
theorem Kp.x (k:Kp W h h'):KpX W X h h':=fun a o n _ e=>k a o n e
theorem KpX.refl (h:Heap):KpX W X h h:=fun _ _ _ _ e=>e
variable {h'':Heap}
theorem KpX.trans {Y:Addr->Prop} (x:KpX W X h h') (y:KpX W Y h' h'') (hy:∀ a,Y a->(h.get? a).isSome->X a):KpX W X h h'':=
 fun a o n nx e=>y a o n (fun q=>nx (hy a q (by rw [e];rfl))) (x a o n nx e)
structure RpH (W:Wd) (T:Heap->Prop) (M0:Addr->Prop) (Θ:List ac) (h:Heap) (O:List Addr):Prop where
 gd:Gd W T h
 live:∀ a,M0 a->a ≠ W.tab /\ (h.get? a).isSome
 len:O.length = Θ.length
 nd:O.Nodup
 apart:∀ a ∈ O,¬ M0 a
 above:∀ a ∈ O,W.nb <= a
 there:∀ a ∈ O,(h.get? a).isSome
 obs:∀ (i:Nat) (a:Addr) (o:ac),O[i]? = some a->Θ[i]? = some o->Obs W h O (Mx M0 O Θ) a o
structure Rp (W:Wd) (T:Heap->Prop) (env:Env) (M0:Addr->Prop) (μ:Str->Option D) (Θ:List ac) (h:Heap) (vm:Str->Option Value) (O:List Addr):Prop extends RpH W T M0 Θ h O where
 fm:Fm W h env vm
 vars:bz h O (Mx M0 O Θ) vm μ
 sep:∀ a,bf O Θ a->¬ Fx env a
variable {T:Heap->Prop}
theorem Obs.ne_tab {a:Addr} {o:ac} (g:Gd W T h) (x:Obs W h O M a o) (ho:o ≠ .gone):a ≠ W.tab /\ (h.get? a).isSome:=by
 obtain ⟨ob,e,_,ht⟩:=x.rec ho;refine ⟨?_,by rw [e];rfl⟩
 rintro rfl
 obtain ⟨vs,q⟩:=g.tab;rw [e] at q;exact ht vs (Option.some.inj q)
variable {M0:Addr->Prop} {Θ:List ac} {s:Shared}
theorem RpH.ok (R:RpH W T M0 Θ s.heap O) (tk:0 <= s.toks):Ok W T (Mx M0 O Θ) s:=
 ⟨R.gd,fun a m=>by
  rcases m with m | ⟨i,o,h1,h2,h3⟩
  ·exact R.live a m
  ·exact Obs.ne_tab R.gd (R.obs i a o h1 h2) h3,tk⟩
theorem Obs.step {a:Addr} {o:ac} (g:Gd W T h) (k:Kp W h h') (ho:∀ (i:Nat) (a:Addr),O[i]? = some a->O'[i]? = some a)
  (hm:∀ a,M' a->(h.get? a).isSome->M a) (x:Obs W h O M a o):Obs W h' O' M' a o:=
 x.move (fun hg ob e=>k _ _ (x.ne_tab g hg).1 e) (k.seq g).m ho hm
theorem Obs.st {a:Addr} {o:ac} (g:Gd W T h) (k:Kp W h h') (x:Obs W h O M a o):Obs W h' O M a o:=x.step g k (fun _ _ e=>e) fun _ m _=>m
theorem Obs.mv {a:Addr} {o:ac} (ha:o ≠ .gone->∀ ob,h.get? a = some ob->h'.get? a = some ob) (k:aN M h h') (x:Obs W h O M a o):Obs W h' O M a o:=x.move ha k (fun _ _ e=>e) fun _ m _=>m
theorem cZ (x:Stp W T h h') {a:Addr} (e:(h.get? a).isSome):(h'.get? a).isSome:=by
 by_cases ht:a = W.tab
 ·subst ht;obtain ⟨vs,q⟩:=x.gd.tab;rw [q];rfl
 ·obtain ⟨o,e⟩:=Option.isSome_iff_exists.mp e;rw [x.kp a o ht e];rfl
theorem RpH.step (R:RpH W T M0 Θ h O) (x:Stp W T h h'):RpH W T M0 Θ h' O where
 gd:=x.gd
 live:=fun a m=>⟨(R.live a m).1,by
  obtain ⟨o,e⟩:=Option.isSome_iff_exists.mp (R.live a m).2;exact Option.isSome_iff_exists.mpr ⟨o,x.kp a o (R.live a m).1 e⟩⟩
 len:=R.len
 nd:=R.nd
 apart:=R.apart
 above:=R.above
 there:=fun a ha=>cZ x (R.there a ha)
 obs:=fun i a o h1 h2=>(R.obs i a o h1 h2).st R.gd x.kp
variable {env:Env} {μ:Str->Option D} {vm:Str->Option Value}
theorem Rp.step (R:Rp W T env M0 μ Θ h vm O) (x:Stp W T h h'):Rp W T env M0 μ Θ h' vm O:=
 { R.toRpH.step x with fm:=R.fm.step R.gd x.kp,vars:=R.vars.st R.gd x.kp,sep:=R.sep }
inductive Out where
 | nxt (μ:Str->Option D) (Θ:List ac)
 | brk (μ:Str->Option D) (Θ:List ac)
 | cont (μ:Str->Option D) (Θ:List ac)
 | ret (d:D) (Θ:List ac)
structure Ext (h:Heap) (O O':List Addr):Prop where
 pre:∀ (i:Nat) (a:Addr),O[i]? = some a->O'[i]? = some a
 new:∀ (i:Nat) (a:Addr),O'[i]? = some a->O[i]? = some a \/ h.get? a = none
theorem Ext.refl (h:Heap) (O:List Addr):Ext h O O:=⟨fun _ _ e=>e,fun _ _ e=>.inl e⟩
structure gI (Θ Θ':List ac):Prop where
 len:Θ.length <= Θ'.length
 gone:∀ (i:Nat),Θ[i]? = some .gone->Θ'[i]? = some .gone
theorem gI.refl (Θ:List ac):gI Θ Θ:=⟨Nat.le_refl _,fun _ e=>e⟩
variable {Θ' Θ'':List ac}
theorem gI.trans (x:gI Θ Θ') (y:gI Θ' Θ''):gI Θ Θ'':=⟨Nat.le_trans x.len y.len,fun i e=>y.gone i (x.gone i e)⟩
theorem gu (x:Ext h O O') (hl:O.length = Θ.length) (hg:gI Θ Θ') {a:Addr} (l:bf O' Θ' a) (hs:(h.get? a).isSome):bf O Θ a:=by
 obtain ⟨i,o,h1,h2,h3⟩:=l;rcases x.new i a h1 with e | e
 ·have hi:i < Θ.length:=by
   have:=(List.getElem?_eq_some_iff.mp e).1;omega
  refine ⟨i,Θ[i],e,by simp [hi],fun q=>h3 ?_⟩
  have:=hg.gone i (by simp [hi,q])
  rw [h2] at this;exact Option.some.inj this
 ·rw [e] at hs;cases hs
theorem Ext.trans {O'':List Addr} (x:Ext h O O') (y:Ext h' O' O'') (hk:∀ a,(h.get? a).isSome->(h'.get? a).isSome):Ext h O O'':=
 ⟨fun i a e=>y.pre i a (x.pre i a e),fun i a e=>by
  rcases y.new i a e with q | q
  ·exact x.new i a q
  ·refine .inr ?_
   cases z:h.get? a with
   | none=>rfl
   | some o=>have:=hk a (by rw [z];rfl);rw [q] at this;cases this⟩
structure Nx (W:Wd) (X:Addr->Prop) (h:Heap) (O:List Addr) (Θ:List ac) (h':Heap) (O':List Addr) (Θ':List ac):Prop where
 kp:KpX W (fun a=>X a \/ bf O Θ a) h h'
 ext:Ext h O O'
 grow:∀ a,(h.get? a).isSome->(h'.get? a).isSome
 later:gI Θ Θ'
theorem Nx.refl (h:Heap) (O:List Addr) (Θ:List ac):Nx W X h O Θ h O Θ:=⟨.refl h,.refl h O,fun _ e=>e,.refl Θ⟩
theorem Nx.trans {O'':List Addr} (x:Nx W X h O Θ h' O' Θ') (y:Nx W X h' O' Θ' h'' O'' Θ'') (hl:O.length = Θ.length):Nx W X h O Θ h'' O'' Θ'' where
 kp:=x.kp.trans y.kp fun _ q hs=>q.imp id fun l=>gu x.ext hl x.later l hs
 ext:=x.ext.trans y.ext x.grow
 grow:=fun a e=>y.grow a (x.grow a e)
 later:=x.later.trans y.later
theorem Nx.of (x:Stp W T h h'):Nx W X h O Θ h' O Θ where
 kp:=x.kp.x
 ext:=.refl h O
 grow:=fun a e=>by
  by_cases ht:a = W.tab
  ·subst ht;obtain ⟨vs,q⟩:=x.gd.tab;rw [q];rfl
  ·obtain ⟨o,e⟩:=Option.isSome_iff_exists.mp e;rw [x.kp a o ht e];rfl
 later:=.refl Θ
noncomputable def ju (W:Wd) (T:Heap->Prop) (env:Env) (M0:Addr->Prop) (h:Heap) (O:List Addr) (Θ:List ac):Out->Flow->Heap->Prop
 | .nxt μ' Θ',f,h'=>f = .next /\ ∃ vm' O',Rp W T env M0 μ' Θ' h' vm' O' /\ Nx W (Fx env) h O Θ h' O' Θ'
 | .brk μ' Θ',f,h'=>f = .brk /\ ∃ vm' O',Rp W T env M0 μ' Θ' h' vm' O' /\ Nx W (Fx env) h O Θ h' O' Θ'
 | .cont μ' Θ',f,h'=>f = .cont /\ ∃ vm' O',Rp W T env M0 μ' Θ' h' vm' O' /\ Nx W (Fx env) h O Θ h' O' Θ'
 | .ret d Θ',f,h'=>∃ v O',f = .ret v /\ RpH W T M0 Θ' h' O' /\ Den h' O' (Mx M0 O' Θ') v d /\ Nx W (Fx env) h O Θ h' O' Θ'
variable {o:Out}
theorem ju.after {f:Flow} (hl:O.length = Θ.length) (x:Nx W (Fx env) h O Θ h' O' Θ')
  (p:ju W T env M0 h' O' Θ' o f h''):ju W T env M0 h O Θ o f h'':=by
 cases o with
 | nxt μ Θ=>obtain ⟨a,vm,O2,R,y⟩:=p;exact ⟨a,vm,O2,R,x.trans y hl⟩
 | brk μ Θ=>obtain ⟨a,vm,O2,R,y⟩:=p;exact ⟨a,vm,O2,R,x.trans y hl⟩
 | cont μ Θ=>obtain ⟨a,vm,O2,R,y⟩:=p;exact ⟨a,vm,O2,R,x.trans y hl⟩
 | ret d Θ=>obtain ⟨v,O2,a,R,dv,y⟩:=p;exact ⟨v,O2,a,R,dv,x.trans y hl⟩
structure EX (W:Wd) (T:Heap->Prop) (n:Nat) (env:Env) (μ:Str->Option D) (Θ:List ac) (c:Sem Flow) (o:Out):Prop where
 of ::
 run:∀ (A:Around) (s:Shared) (vm:Str->Option Value) (O:List Addr) (M0:Addr->Prop),aL n A->0 <= s.toks->Rp W T env M0 μ Θ s.heap vm O->
  ∀ (Q:Flow->Shared->Prop) (E:Value->Shared->Prop),(∀ f h' tk,s.toks <= tk->ju W T env M0 s.heap O Θ o f h'->Q f { s with heap:=h',toks:=tk })->wpAny (model W.prog W.w) A c Q E s
variable {n:Nat} {μ' μv:Str->Option D}
theorem ou (R:RpH W T M0 Θ h O) {a:Addr} (l:bf O Θ a):(h.get? a).isSome:=by
 obtain ⟨i,o,h1,h2,h3⟩:=l;exact (Obs.ne_tab R.gd (R.obs i a o h1 h2) h3).2
theorem ar:EX W T n env μ Θ (execs [] env) (.nxt μ Θ):=
 .of fun _ s vm O _ _ _ R _ _ q=>wpAny_execs_nil (q _ s.heap s.toks (Nat.le_refl _) ⟨rfl,vm,O,R,.refl ..⟩)
variable {rest:List Stmt}
theorem ae {st:Stmt} (h1:EX W T n env μ Θ (exec st env) (.nxt μ' Θ')) (h2:EX W T n env μ' Θ' (execs rest env) o):EX W T n env μ Θ (execs (st :: rest) env) o:=by
 refine .of ?_;intro A s vm O M0 r t R Q E q;refine wpAny_execs_cons (h1.run A s vm O M0 r t R _ _ fun f h' tk le p=>?_)
 obtain ⟨rfl,vm',O',R',x⟩:=p;exact h2.run A _ vm' O' M0 r (Nat.le_trans t le) R' Q E fun f h'' tk' le' p'=>q f h'' tk' (Nat.le_trans le le') (p'.after R.len x)
noncomputable def Out.stops:Out->Bool
 | .nxt ..=>false
 | _=>true
theorem aM {st:Stmt} (h1:EX W T n env μ Θ (exec st env) o) (hs:o.stops = true):EX W T n env μ Θ (execs (st :: rest) env) o:=by
 refine .of ?_;intro A s vm O M0 r t R Q E q;refine wpAny_execs_cons (h1.run A s vm O M0 r t R _ _ fun f h' tk le p=>?_)
 have q':=q f h' tk le p
 cases o with
 | nxt=>cases hs
 | brk=>obtain ⟨rfl,_⟩:=p;exact q'
 | cont=>obtain ⟨rfl,_⟩:=p;exact q'
 | ret=>obtain ⟨v,_,rfl,_⟩:=p;exact q'
noncomputable def be (Θ:List ac) (μ μv:Str->Option D):Prop:=∀ x d,μv x = some d->μ x = some d \/ ∃ i ds,μ x = some (.ref i) /\ Θ[i]? = some (.mlist ds) /\ d = .list ds
theorem be.refl (Θ:List ac) (μ:Str->Option D):be Θ μ μ:=fun _ _ e=>.inl e
theorem Rp.view (R:Rp W T env M0 μ Θ h vm O) (hv:be Θ μ μv):bz h O M0 vm μv:=by
 intro x d e;rcases hv x d e with e | ⟨i,ds,e1,e2,rfl⟩
 ·obtain ⟨v,a,b⟩:=R.vars x d e;exact ⟨v,a,b.step R.gd (.refl W h) (fun _ _ e=>e) fun _ m _=>.inl m⟩
 ·obtain ⟨v,a,b⟩:=R.vars x _ e1
  induction b using rE with
  | ref hi=>
   rename_i ad;obtain ⟨vs,pl,dl⟩:=R.obs i ad _ hi e2;refine ⟨_,a,.list pl (R.apart ad (mem_of_getElem? hi)) (dl.step R.gd (.refl W h) (fun _ _ e=>e) fun _ m _=>.inl m)⟩
theorem RpH.ok0 (R:RpH W T M0 Θ s.heap O) (tk:0 <= s.toks):Ok W T M0 s:=⟨R.gd,R.live,tk⟩
variable {test:Expr} {body orelse:List Stmt} {pos:Pos} {b:Bool}
theorem gf (hv:be Θ μ μv) (ht:TST W T n env μv test b)
  (h1:b = true->EX W T n env μ Θ (execs body env) o) (h2:b = false->EX W T n env μ Θ (execs orelse env) o):EX W T n env μ Θ (exec (.If test body orelse pos) env) o:=by
 refine .of ?_;intro A s vm O M0 r t R Q E q;refine wpAny_If (ht.run A s vm O M0 r (R.toRpH.ok0 t) R.fm (R.view hv) _ _ fun h' tk le st=>?_)
 have R':=R.step st
 cases b with
 | true=>exact (h1 rfl).run A _ vm O M0 r (Nat.le_trans t le) R' Q E fun f h'' tk' le' p=>q f h'' tk' (Nat.le_trans le le') (p.after R.len (.of st))
 | false=>exact (h2 rfl).run A _ vm O M0 r (Nat.le_trans t le) R' Q E fun f h'' tk' le' p=>q f h'' tk' (Nat.le_trans le le') (p.after R.len (.of st))
variable {e:Expr}
theorem cy (hv:be Θ μ μv) (he:EVP W T n env μv e d):EX W T n env μ Θ (exec (.Return (some e) pos) env) (.ret d (Θ.map fun _=>.gone)):=by
 refine .of ?_;intro A s vm O M0 r t R Q E q;refine wpAny_Return_some (he.run A s vm O M0 r (R.toRpH.ok0 t) R.fm (R.view hv) _ _ fun v h' tk le st dv=>q _ h' tk le ⟨v,O,rfl,?_,?_,?_⟩)
 ·have R':=R.toRpH.step st;refine ⟨R'.gd,R'.live,by rw [length_map];exact R'.len,R'.nd,R'.apart,R'.above,R'.there,fun i a o h1 h2=>?_⟩
  rw [getElem?_map] at h2;obtain ⟨_,_,rfl⟩:=Option.map_eq_some_iff.mp h2;exact trivial
 ·refine dv.step st.gd (.refl W h') (fun _ _ e=>e) fun a m _=>m.elim id fun l=>?_
  obtain ⟨i,o,h1,h2,h3⟩:=l;rw [getElem?_map] at h2;obtain ⟨_,_,rfl⟩:=Option.map_eq_some_iff.mp h2;exact absurd rfl h3
 ·have x:Nx W (Fx env) s.heap O Θ h' O Θ:=.of st;exact ⟨x.kp,x.ext,x.grow,by rw [length_map];exact Nat.le_refl _,fun i e=>by rw [getElem?_map,e];rfl⟩
variable {μ'':Str->Option D}
theorem Fm.both (F:Fm W h env vm) {b:Addr} (f:Fx env b):∃ o,h.get? b = some o /\ (∀ xs k,o.data ≠ .seq xs k) /\ ¬ bH o:=by
 rcases f with rfl | ⟨x,e⟩
 ·obtain ⟨m,⟨o,es,ep,ho,hd,_⟩,_⟩:=F.loc;exact ⟨o,ho,ns hd rfl,e6 hd⟩
 ·obtain ⟨o,ho,hd⟩:=F.cell x b e;exact ⟨o,ho,ns hd rfl,sV hd rfl⟩
theorem Fm.at_fx (F:Fm W h env vm) {b:Addr} (f:Fx env b):∃ o,h.get? b = some o /\ ∀ xs k,o.data ≠ .seq xs k:=let ⟨o,a,b,_⟩:=F.both f;⟨o,a,b⟩
theorem Fm.nc (F:Fm W h env vm) {b:Addr} (f:Fx env b) (o:Obj) (e:h.get? b = some o):¬ bH o:=let ⟨_,a,_,c⟩:=F.both f;Option.some.inj (a.symm.trans e) ▸ c
theorem Gd.same (hW:Wok W T) {b:Addr} (g:Gd W T h) (hb:W.nb <= b) (nc:∀ o,h.get? b = some o->¬ bH o) (hs:Heap.SameBut b h h'):Gd W T h':=
 g.base hW fun a o ha e=>(hs.2 a (fun (q:a = b)=>by subst q;exact ha.elim (fun ha=>absurd hb (Nat.not_le.mpr ha)) (nc o e))).trans e
theorem jO {b:Addr} (hs:Heap.SameBut b h h') (hb:(h'.get? b).isSome) (a:Addr) (ha:(h.get? a).isSome):(h'.get? a).isSome:=by
 by_cases q:a = b
 ·subst q;exact hb
 ·rw [hs.2 a q];exact ha
theorem dp (g:Gd W T h') (kp:KpX W X h h') (a:Addr) (al:X a->(h'.get? a).isSome) (e:(h.get? a).isSome):(h'.get? a).isSome:=by
 by_cases q:X a
 ·exact al q
 ·by_cases ht:a = W.tab
  ·obtain ⟨vs,e'⟩:=g.tab;rw [ht,e'];rfl
  ·obtain ⟨o,e⟩:=Option.isSome_iff_exists.mp e;rw [kp a o ht q e];rfl
theorem RpH.tr {M2:Addr->Prop} (R:RpH W T M0 Θ h O) (g:Gd W T h') (kp:KpX W X h h') (hm:∀ a,M2 a->M0 a) (gr:∀ a,M2 a \/ a ∈ O->(h.get? a).isSome->(h'.get? a).isSome) (xo:∀ a,X a->¬ bf O Θ a) (ks:aN (Mx M0 O Θ) h h'):RpH W T M2 Θ h' O:=
 ⟨g,fun a m=>⟨(R.live a (hm a m)).1,gr a (.inl m) (R.live a (hm a m)).2⟩,R.len,R.nd,fun a ha m=>R.apart a ha (hm a m),R.above,fun a ha=>gr a (.inr ha) (R.there a ha),fun i a o h1 h2=>
  have ob:=R.obs i a o h1 h2;ob.move (fun hg o' e=>kp a o' (ob.ne_tab R.gd hg).1 (fun x=>xo a x ⟨i,o,h1,h2,hg⟩) e) ks (fun _ _ e=>e) fun _ m _=>m.imp (hm _) id⟩
theorem Rp.tr {M2:Addr->Prop} (R:Rp W T env M0 μ Θ h vm O) (g:Gd W T h') (kp:KpX W X h h') (hm:∀ a,M2 a->M0 a) (gr:∀ a,M2 a \/ a ∈ O->(h.get? a).isSome->(h'.get? a).isSome) (xf:∀ a,X a->¬ Fx env a) (xo:∀ a,X a->¬ bf O Θ a) (ks:aN (Mx M0 O Θ) h h'):Rp W T env M2 μ Θ h' vm O:=
 ⟨R.toRpH.tr g kp hm gr xo ks,R.fm.kept R.gd fun a o f ht e=>kp a o ht (fun x=>xf a x f) e,fun y d e=>let ⟨v,a,b⟩:=R.vars y d e;⟨v,a,b.kseqM ks (fun _ _ e=>e) fun _ m _=>m.imp (hm _) id⟩,R.sep⟩
variable {C:Addr}
theorem Rp.scrap (hW:Wok W T) {m:Str->Option Value} (R:Rp W T env M0 μ Θ h vm O) (hC:W.nb <= C) (hn:h.Ns C m) (nF:¬ Fx env C) (nM:¬ M0 C) (nO:C ∉ O) (sb:Heap.SameBut C h h'):Rp W T env M0 μ Θ h' vm O:=by
 obtain ⟨o,es,ep,ho,hd,_⟩:=hn;exact R.tr (X:=(· = C)) (R.gd.same hW hC (fun o' e=>Option.some.inj (ho.symm.trans e) ▸ e6 hd) sb) (fun a o _ nx e=>(sb.2 a nx).trans e) (fun _ m=>m) (fun a q e=>by rw [sb.2 a fun z=>q.elim (z ▸ nM) (z ▸ nO)];exact e) (fun a e=>e ▸ nF) (fun a e ⟨i,_,h1,_⟩=>nO (e ▸ mem_of_getElem? h1))
  (jl sb ho (ns hd rfl)).m
noncomputable abbrev Nox:Addr->Prop:=fun _=>False
theorem Nx.wide (x:Nx W Nox h O Θ h' O' Θ'):Nx W X h O Θ h' O' Θ':=
 ⟨fun a ob ht z e=>x.kp a ob ht (fun q=>z (q.imp False.elim id)) e,x.ext,x.grow,x.later⟩
theorem kO (hl:O.length = Θ.length) (x:Nx W X h O Θ h' O' Θ'):∀ a,Mx M0 O' Θ' a->(h.get? a).isSome->Mx M0 O Θ a:=
 fun _ m hs=>m.imp id fun l=>gu x.ext hl x.later l hs
theorem u9 (R:RpH W T M0 Θ h O) (x:Nx W Nox h O Θ h' O' Θ'):aN (Mx M0 O Θ) h h':=fun a o xs k nm e hd=>
 x.kp a o (R.gd.ne_tab e (nf hd rfl)) (fun z=>z.elim False.elim fun l=>nm (.inr l)) e
theorem rH (R:Rp W T env M0 μ Θ h vm O) (x:Nx W (Fx env) h O Θ h' O' Θ'):aN (Mx M0 O Θ) h h':=fun a o xs k nm e hd=>
 x.kp a o (R.gd.ne_tab e (nf hd rfl)) (fun z=>z.elim (fun f=>by
  obtain ⟨o',e',q⟩:=R.fm.at_fx f;rw [e] at e';cases e';exact q xs k hd) fun l=>nm (.inr l)) e
theorem Den.nx (y:Den h O (Mx M0 O Θ) v d) (R:Rp W T env M0 μ Θ h vm O) (x:Nx W (Fx env) h O Θ h' O' Θ'):Den h' O' (Mx M0 O' Θ') v d:=
 y.kseqM (rH R x) x.ext.pre (kO R.len x)
theorem am.nx {v:List Value} {d:List D} (y:am h O (Mx M0 O Θ) v d) (R:Rp W T env M0 μ Θ h vm O) (x:Nx W (Fx env) h O Θ h' O' Θ'):am h' O' (Mx M0 O' Θ') v d:=
 y.kseqM (rH R x) x.ext.pre (kO R.len x)
theorem Den.nxH (y:Den h O (Mx M0 O Θ) v d) (R:RpH W T M0 Θ h O) (x:Nx W Nox h O Θ h' O' Θ'):Den h' O' (Mx M0 O' Θ') v d:=
 y.kseqM (u9 R x) x.ext.pre (kO R.len x)
theorem am.nxH {v:List Value} {d:List D} (y:am h O (Mx M0 O Θ) v d) (R:RpH W T M0 Θ h O) (x:Nx W Nox h O Θ h' O' Θ'):am h' O' (Mx M0 O' Θ') v d:=
 y.kseqM (u9 R x) x.ext.pre (kO R.len x)
theorem Rp.called (R:Rp W T env M0 μ Θ h vm O) (R':RpH W T M0 Θ' h' O') (x:Nx W Nox h O Θ h' O' Θ'):Rp W T env M0 μ Θ' h' vm O':=
 ⟨R',R.fm.kept R.gd fun a ob f ht e=>x.kp a ob ht (fun z=>z.elim False.elim fun l=>R.sep a l f) e,fun y d e=>let ⟨v,a,b⟩:=R.vars y d e;⟨v,a,b.nxH R.toRpH x⟩,fun a ha f=>
  let ⟨_,e',_⟩:=R.fm.at_fx f
  R.sep a (gu x.ext R.len x.later ha (by rw [e'];rfl)) f⟩
variable {i j:Nat}
theorem eF (nd:O.Nodup) {a:Addr} (hi:O[i]? = some a) (hj:O[j]? = some a):i = j:=(List.getElem?_inj (List.getElem?_eq_some_iff.mp hi).1 nd).mp (hi.trans hj.symm)
theorem kL {α:Type} {l:List α} {i j:Nat} {x y:α} (h:(l.set i x)[j]? = some y):(i = j /\ y = x) \/ (i ≠ j /\ l[j]? = some y):=by
 by_cases q:i = j
 ·rw [<- q] at h;have z:=(List.getElem?_eq_some_iff.mp h).1;rw [List.length_set] at z;rw [getElem?_set_self z] at h;exact .inl ⟨q,(Option.some.inj h).symm⟩
 ·exact .inr ⟨q,by rwa [getElem?_set_ne q] at h⟩
variable {ob':ac}
theorem jv {a:Addr} {ob:ac} (ha:O[i]? = some a) (hi:Θ[i]? = some ob) (hg:ob ≠ .gone) (b:Addr) (l:bf O (Θ.set i ob') b):bf O Θ b:=by
 obtain ⟨j,o,h1,h2,h3⟩:=l;rcases kL h2 with ⟨q,_⟩ | ⟨_,z⟩
 ·exact ⟨i,ob,q ▸ h1,hi,hg⟩
 ·exact ⟨j,o,h1,z,h3⟩
theorem gw {ob:ac} (hi:Θ[i]? = some ob) (hg:ob ≠ .gone):gI Θ (Θ.set i ob'):=⟨le_of_eq List.length_set.symm,fun j e=>by
 by_cases q:i = j
 ·rw [<- q,hi] at e;exact absurd (Option.some.inj e) hg
 ·rw [getElem?_set_ne q];exact e⟩
theorem RpH.upd (hW:Wok W T) {a:Addr} {ob:ac} (R:RpH W T M0 Θ h O) (ha:O[i]? = some a) (hi:Θ[i]? = some ob) (hg:ob ≠ .gone) (hg':ob' ≠ .gone) (sb:Heap.SameBut a h h')
  (no:Obs W h' O (Mx M0 O Θ) a ob'):RpH W T M0 (Θ.set i ob') h' O /\ Nx W Nox h O Θ h' O (Θ.set i ob'):=by
 have la:bf O Θ a:=⟨i,_,ha,hi,hg⟩;have mx:∀ b,Mx M0 O (Θ.set i ob') b->Mx M0 O Θ b:=fun b m=>m.imp id (jv ha hi hg b)
 have gr:=jO sb (let ⟨_,e,_⟩:=no.rec hg';by rw [e];rfl)
 obtain ⟨r,er,nc,_⟩:=(R.obs i a ob ha hi).rec hg;have ks:aN (Mx M0 O Θ) h h':=fun b ob xs j nb e _=>(sb.2 b fun z=>nb (.inr (z ▸ la))).trans e
 refine ⟨⟨R.gd.same hW (R.above a (mem_of_getElem? ha)) (fun o e=>Option.some.inj (er.symm.trans e) ▸ nc) sb,fun b m=>⟨(R.live b m).1,gr b (R.live b m).2⟩,R.len.trans List.length_set.symm,R.nd,R.apart,R.above,fun b hb=>gr b (R.there b hb),fun j b ob2 h1 h2=>?_⟩,
  ⟨fun b ob _ nx e=>(sb.2 b fun z=>nx (.inr (z ▸ la))).trans e,.refl _ _,gr,gw hi hg⟩⟩
 rcases kL h2 with ⟨q,rfl⟩ | ⟨q,z⟩
 ·rw [<- q,ha] at h1;rw [<- Option.some.inj h1];exact no.move (fun _ _ e=>e) (fX.refl h').m (fun _ _ e=>e) fun b m _=>mx b m
 ·exact (R.obs j b ob2 h1 z).move (fun _ o e=>(sb.2 b fun z=>q (eF R.nd ha (z ▸ h1))).trans e) ks (fun _ _ e=>e) fun b m _=>mx b m
theorem g9 {α:Type} {x:α} {a:α}:∀ {l:List α} {i:Nat},(l ++ [x])[i]? = some a->l[i]? = some a \/ (i = l.length /\ a = x)
 | [],0,e=>.inr ⟨rfl,(Option.some.inj e).symm⟩
 | [],_ + 1,e=>nomatch e
 | _ :: _,0,e=>.inl e
 | _ :: l,i + 1,e=>(g9 (l:=l) (i:=i) e).imp id fun ⟨h,q⟩=>⟨congrArg Nat.succ h,q⟩
theorem dt {α:Type} {l:List α} {x:α} {i:Nat} {a:α} (e:l[i]? = some a):(l ++ [x])[i]? = some a:=
 (List.getElem?_append_left (List.getElem?_eq_some_iff.mp e).1).trans e
theorem j6 {α β:Type} {l:List α} {m:List β} {x a:α} {y b:β} {i:Nat} (hl:l.length = m.length) (h1:(l ++ [x])[i]? = some a) (h2:(m ++ [y])[i]? = some b):(l[i]? = some a /\ m[i]? = some b) \/ (a = x /\ b = y):=by
 rcases g9 h1 with q | ⟨q,q'⟩
 ·rcases g9 h2 with z | ⟨z,_⟩
  ·exact .inl ⟨q,z⟩
  ·exact absurd (List.getElem?_eq_some_iff.mp q).1 (by rw [z,hl];exact Nat.lt_irrefl _)
 ·rcases g9 h2 with z | ⟨_,z⟩
  ·exact absurd (List.getElem?_eq_some_iff.mp z).1 (by rw [q,hl];exact Nat.lt_irrefl _)
  ·exact .inr ⟨q',z⟩
theorem lz {α:Type} {l:List α} {x:α} {P:α->Prop} (h:∀ a ∈ l,P a) (hx:P x) (a:α) (ha:a ∈ l ++ [x]):P a:=(List.mem_append.mp ha).elim (h a) fun q=>List.mem_singleton.mp q ▸ hx
theorem RpH.new {a:Addr} {ob:ac} (R:RpH W T M0 Θ h O) (st:Stp W T h h') (hn:h.get? a = none) (hb:W.nb <= a) (hs:(h'.get? a).isSome)
  (no:Obs W h' (O ++ [a]) (fun b=>Mx M0 O Θ b \/ b = a) a ob):RpH W T M0 (Θ ++ [ob]) h' (O ++ [a]) /\ Nx W Nox h O Θ h' (O ++ [a]) (Θ ++ [ob]):=by
 have R':=R.step st;have nw:∀ b,(h.get? b).isSome->b ≠ a:=fun b e z=>by rw [z,hn] at e;cases e
 have mb:∀ b,Mx M0 (O ++ [a]) (Θ ++ [ob]) b->Mx M0 O Θ b \/ b = a:=fun b m=>m.elim (fun m=>.inl (.inl m)) fun ⟨i,o,h1,h2,h3⟩=>
  (j6 R.len h1 h2).imp (fun q=>.inr ⟨i,o,q.1,q.2,h3⟩) fun q=>q.1
 refine ⟨⟨st.gd,R'.live,by rw [length_append,length_append,R.len];rfl,List.nodup_append.mpr ⟨R.nd,List.nodup_cons.mpr ⟨not_mem_nil,.nil⟩,fun x hx y hy z=>nw x (R.there x hx) (z.trans (List.mem_singleton.mp hy))⟩,lz R.apart fun m=>nw a (R.live a m).2 rfl,lz R.above hb,lz (fun b q=>cZ st (R.there b q)) hs,fun i b o h1 h2=>?_⟩,⟨st.kp.x,⟨fun i b e=>dt e,fun i b e=>(g9 e).imp id fun (q:_ /\ b = a)=>q.2 ▸ hn⟩,fun b e=>cZ st e,⟨length_append ▸ le_add_right _ _,fun i e=>dt e⟩⟩⟩
 rcases j6 R.len h1 h2 with ⟨q,z⟩ | ⟨rfl,rfl⟩
 ·exact (R.obs i b o q z).step R.gd st.kp (fun _ _ e=>dt e) fun b m e=>(mb b m).elim id fun z=>absurd z (nw b e)
 ·exact no.move (fun _ _ e=>e) (fX.refl _).m (fun _ _ e=>e) fun b m _=>mb b m
theorem sr {a:Addr} {ob:ac} (ha:O[i]? = some a) (hi:Θ[i]? = some ob) (hg:ob ≠ .gone) (sb:Heap.SameBut a h h'):aN (Mx M0 O Θ) h h':=
 fun b _ _ _ nb e _=>(sb.2 b fun z=>nb (.inr (z ▸ ⟨i,ob,ha,hi,hg⟩))).trans e
theorem RpH.mlist (hW:Wok W T) {a:Addr} {ds':List D} {vs':List Value} (R:RpH W T M0 Θ h O) (ha:O[i]? = some a) (hi:Θ[i]? = some (.mlist ds)) (sb:Heap.SameBut a h h')
  (pl:h'.PlainList a vs'.toArray) (dl:am h O (Mx M0 O Θ) vs' ds'):RpH W T M0 (Θ.set i (.mlist ds')) h' O /\ Nx W Nox h O Θ h' O (Θ.set i (.mlist ds')):=
 R.upd hW (ob':=.mlist ds') ha hi (fun q=>by cases q) (fun q=>by cases q) sb ⟨vs',pl,dl.kq (sr ha hi (fun q=>by cases q) sb)⟩
theorem Fm.cell_ne (F:Fm W h env vm) {x:Str} {c:Addr} (e:env.cells.lookup x = some c):c ≠ env.locals:=by
 rintro rfl
 obtain ⟨m,⟨o,es,ep,ho,hd,_⟩,_⟩:=F.loc;obtain ⟨o',ho',hd'⟩:=F.cell x _ e;rw [ho] at ho';cases ho';rw [hd] at hd';cases hd'
variable {A:Around} {E:Value->Shared->Prop}
theorem bV {M:Model} {x:Str} {Q:Unit->Shared->Prop} (F:Fm W s.heap env vm) (hk:Sto env x = true)
  (h:∀ b h' tk,s.toks <= tk->((env.kindOf x = some .local /\ b = env.locals) \/ (env.kindOf x = some .cell /\ env.cells.lookup x = some b))->Heap.SameBut b s.heap h'->Fm W h' env (upd vm x v)->Q () { s with heap:=h',toks:=tk }):wpAny M A (storeName env x v) Q E s:=by
 unfold Sto at hk;split at hk
 ·rename_i hl;obtain ⟨m,hns,hm⟩:=F.loc;refine wpAny_storeName_local hl hns (fun h' hn hs=>h env.locals h' _ (le_succ _) (.inl ⟨hl,rfl⟩) hs ⟨F.kind,F.glob,F.blt,⟨_,hn,fun y hy=>?_⟩,fun y c e=>?_,F.apart,F.above,F.nocell⟩) (by rw [F.kind];rfl)
  ·simp only [upd,hm y hy]
  ·by_cases hyx:y = x
   ·subst hyx;exact (F.nocell y c hl e).elim
   ·simp only [upd,if_neg hyx];exact (F.cell y c e).sameBut hs (F.cell_ne e)
 ·rename_i hl;obtain ⟨c,hc⟩:=Option.isSome_iff_exists.mp hk;refine wpAny_storeName_cell F.kind hl hc (F.cell x c hc) fun h' hv hs=>h c h' s.toks (Nat.le_refl _) (.inr ⟨hl,hc⟩) hs ⟨F.kind,F.glob,F.blt,?_,fun y c' e=>?_,F.apart,F.above,F.nocell⟩
  ·obtain ⟨m,hns,hm⟩:=F.loc;refine ⟨m,hns.sameBut hs (Ne.symm (F.cell_ne hc)),fun y hy=>?_⟩
   have:y ≠ x:=fun q=>by subst q;rw [hl] at hy;cases hy
   simp only [upd,if_neg this];exact hm y hy
  ·by_cases hyx:y = x
   ·subst hyx;rw [hc] at e;cases e;simpa [upd] using hv
   ·simp only [upd,if_neg hyx];exact (F.cell y c' e).sameBut hs fun q=>hyx (F.apart y x c (q ▸ e) hc)
 ·cases hk
theorem Rp.stored (hW:Wok W T) {b:Addr} {x:Str} (R:Rp W T env M0 μ Θ h vm O) (fb:Fx env b) (hs:Heap.SameBut b h h')
  (F':Fm W h' env (upd vm x v)) (dv:Den h O (Mx M0 O Θ) v d):Rp W T env M0 (upd μ x d) Θ h' (upd vm x v) O /\ Nx W (Fx env) h O Θ h' O Θ:=by
 obtain ⟨o,ho,hd⟩:=R.fm.at_fx fb;have ks:=(jl hs ho hd).m (M:=Mx M0 O Θ);have gr:=jO hs (let ⟨o',e,_⟩:=F'.at_fx fb;by rw [e];rfl)
 exact ⟨⟨R.toRpH.tr (X:=Fx env) (R.gd.same hW (R.fm.above b fb) (R.fm.nc fb) hs) (fun a o _ nx e=>(hs.2 a fun q=>nx (q ▸ fb)).trans e) (fun _ m=>m) (fun a _=>gr a) (fun a f l=>R.sep a l f) ks,F',(R.vars.upd dv).kq ks,R.sep⟩,
  ⟨fun a o _ nx e=>(hs.2 a fun q=>nx (.inl (q ▸ fb))).trans e,.refl h O,gr,.refl Θ⟩⟩
noncomputable def D.atom:D->Bool
 | .none | .bool _ | .int _ | .str _=>true
 | _=>false
theorem Den.atom (x:Den h O M v d) (ha:d.atom = true):Den h' O' M' v d:=by
 cases x <;> first | exact .none | exact .bool _ | exact .int _ _ | exact .str _ _ | cases ha
variable {px:Pos}
theorem b6 (hW:Wok W T) {x:Str} (he:EVP W T n env μ e d) (hk:Sto env x = true) (hs:autoParam (swapsWith e (some (.Name x px)) pos.line env = pure false) rfT) :
  EX W T n env μ Θ (exec (.Assign [.Name x px] e pos) env) (.nxt (upd μ x d) Θ):=by
 refine .of ?_;intro A s vm O M0 r t R Q E q;refine wpAny_Assign_Name (he.run A s vm O _ r (R.toRpH.ok t) R.fm R.vars _ _ fun v h1a tA lA st dv=>?_) hs
 have R1:=R.step st;refine bV R1.fm hk fun b h' tk lB fs sb F'=>?_
 have fb:Fx env b:=fs.elim (fun q=>.inl q.2) fun q=>.inr ⟨x,q.2⟩
 obtain ⟨R2,x2⟩:=R1.stored hW fb sb F' dv;exact q _ h' tk (Nat.le_trans lA lB) ⟨rfl,_,O,R2,(Nx.of st).trans x2 R.len⟩
noncomputable def ix (names:List Str) (args:List D):Str->Option D:=fun x=>(names.zip args).reverse.lookup x
theorem kQ {α:Type} (l:List (Str × α)) (y:Str) (v:α) (x:Str):(l ++ [(y,v)]).lookup x = (l.lookup x).or (if x = y then some v else none):=by
 rw [List.lookup_append];by_cases h:x = y
 ·subst h;simp [List.lookup]
 ·have:(x == y) = false:=by simp [h]
  simp [List.lookup,this,h]
theorem pr {k:Str->Option NameKind} {x:Str} (hx:k x = some .local):∀ (binds:List (Str × Value)) (m:Str->Option Value),bindL k binds m x = (binds.reverse.lookup x).or (m x)
 | [],m=>by simp [bindL,List.lookup]
 | (y,v) :: r,m=>by
  rw [bindL,pr hx r,reverse_cons,kQ];by_cases h:x = y
  ·subst h;rw [if_pos hx];cases (r.reverse.lookup x) <;> simp
  ·by_cases hy:k y = some .local
   ·rw [if_pos hy];cases (r.reverse.lookup x) <;> simp [h]
   ·rw [if_neg hy];cases (r.reverse.lookup x) <;> simp [h]
theorem qP {k:Str->Option NameKind} {x:Str} (hx:k x ≠ some .local):∀ (binds:List (Str × Value)) (m:Str->Option Value),bindC k binds m x = (binds.reverse.lookup x).or (m x)
 | [],m=>by simp [bindC,List.lookup]
 | (y,v) :: r,m=>by
  rw [bindC,qP hx r,reverse_cons,kQ];by_cases h:x = y
  ·subst h;rw [if_neg hx];cases (r.reverse.lookup x) <;> simp
  ·by_cases hy:k y = some .local
   ·rw [if_pos hy];cases (r.reverse.lookup x) <;> simp [h]
   ·rw [if_neg hy];cases (r.reverse.lookup x) <;> simp [h]
theorem qr {h:Heap} {O:List Addr} {M:Addr->Prop}:∀ (names:List Str) {vals:List Value} {args:List D},am h O M vals args->∀ (acc:List (Str × Value)) (accD:List (Str × D)),
  (∀ x d,accD.lookup x = some d->∃ v,acc.lookup x = some v /\ Den h O M v d)->
  ∀ x d,((names.zip args).reverse ++ accD).lookup x = some d->∃ v,((names.zip vals).reverse ++ acc).lookup x = some v /\ Den h O M v d
 | [],_,_,_,acc,accD,hA,x,d,e=>by simpa using hA x d (by simpa using e)
 | y :: ns,_,_,.nil,acc,accD,hA,x,d,e=>by simpa using hA x d (by simpa using e)
 | y :: ns,_,_,.cons (v:=v) (d:=dd) dv dl,acc,accD,hA,x,d,e=>by
  simp only [List.zip_cons_cons,reverse_cons,append_assoc,List.singleton_append] at e ⊢;refine qr ns dl ((y,v) :: acc) ((y,dd) :: accD) (fun z d' h'=>?_) x d e
  by_cases hz:z = y
  ·subst hz;simp only [List.lookup,beq_self_eq_true] at h' ⊢;cases h';exact ⟨v,rfl,dv⟩
  ·have:(z == y) = false:=by simp [hz]
   simp only [List.lookup,this] at h' ⊢;exact hA z d' h'
theorem gG {x:Str} {c:Addr}:∀ (names:List (Str × NameKind)) (k:Nat) (acc:List (Str × Addr)),(cellsFrom k names acc).lookup x = some c->(x,NameKind.cell) ∈ names \/ acc.lookup x = some c
 | [],_,acc,e=>.inr e
 | (y,kd) :: r,k,acc,e=>by
  unfold cellsFrom at e;split at e
  ·rename_i hk;rcases gG r _ _ e with q | q
   ·exact .inl (.tail _ q)
   ·by_cases hy:x = y
    ·subst hy;have:kd = .cell:=beq_iff_eq.mp hk;subst this;exact .inl (.head _)
    ·have:(x == y) = false:=by simp [hy]
     simp only [List.lookup,this] at q;exact .inr q
  ·rcases gG r _ _ e with q | q
   ·exact .inl (.tail _ q)
   ·exact .inr q
noncomputable def br (sc:Scope):Bool:=sc.names.all fun p=>decide (sc.names.lookup p.1 = some p.2)
noncomputable def ew (sc:Scope) (x:Str):Bool:=match sc.names.lookup x with
 | some .local=>true
 | some .cell=>((cellsFrom 0 sc.names []).lookup x).isSome
 | _=>false
theorem eQ {x:Str}:∀ (names:List (Str × NameKind)) (k j:Nat) (acc acc':List (Str × Addr)),(acc.lookup x).isSome = (acc'.lookup x).isSome->((cellsFrom k names acc).lookup x).isSome = ((cellsFrom j names acc').lookup x).isSome
 | [],_,_,_,_,h=>h
 | (y,kd) :: r,k,j,acc,acc',h=>by
  unfold cellsFrom;split
  ·refine eQ r _ _ _ _ ?_
   cases hxy:x == y with
   | true=>simp [List.lookup,hxy]
   | false=>simp only [List.lookup,hxy];exact h
  ·exact eQ r _ _ _ _ h
theorem qo {α β:Type} {l:List α} {m:List β} {p:α × β} (h:p ∈ l.zip m):p.1 ∈ l:=(of_mem_zip (a:=p.1) (b:=p.2) h).1
theorem az:h.get? h.objs.size = none:=Heap.get?_none_of_le (Nat.le_refl _)
variable {names:List Str}
theorem yy {sc:Scope} (hpar:names.all (ew sc) = true) (L:Addr) (x:Str) (hx:x ∈ names):sc.names.lookup x = some .local \/ (sc.names.lookup x = some .cell /\ ((cellsFrom L sc.names []).lookup x).isSome = true):=by
 have:=List.all_eq_true.mp hpar x hx;unfold ew at this;split at this
 ·rename_i e;exact .inl e
 ·rename_i e;exact .inr ⟨e,by rw [<- this];exact eQ _ _ _ _ _ rfl⟩
 ·cases this
variable {fd:FuncData}
theorem xS {f:Addr} {s':Shared} (hk:fd.scope.kind = .function) (hgl:fd.globals = mainGlobals) (hbl:fd.builtins = builtinsNs) (hsc:br fd.scope = true) (hz:W.nb <= s.heap.objs.size)
  (X:InCallC s (callEnvC fd s.heap.objs.size f).locals (bindL (callEnvC fd s.heap.objs.size f).kindOf (names.zip vs) fun _=>none) (callEnvC fd s.heap.objs.size f).cells (bindC (callEnvC fd s.heap.objs.size f).kindOf (names.zip vs) fun _=>none) s') :
  Fm W s'.heap (callEnvC fd s.heap.objs.size f) (fun x=>(names.zip vs).reverse.lookup x) /\ ∀ a,Fx (callEnvC fd s.heap.objs.size f) a->s.heap.get? a = none:=by
 have nc:∀ x c,fd.scope.names.lookup x = some .local->(callEnvC fd s.heap.objs.size f).cells.lookup x = some c->False:=fun x c hx e=>by
  rcases gG _ _ _ e with q | q
  ·have h2:=of_decide_eq_true (List.all_eq_true.mp hsc _ q);rw [hx] at h2;cases h2
  ·cases q
 refine ⟨⟨hk,hgl,hbl,⟨_,X.toInCall.ns,fun x hx=>by rw [pr hx];simp⟩,fun x c e=>?_,fun x y c e1 e2=>name_of_addr X.apart (mem_of_lookup e1) (mem_of_lookup e2),fun a fa=>?_,fun x c hx e=>nc x c hx e⟩,fun a fa=>?_⟩
 ·have z:=X.cell x c e;rw [qP fun hx=>nc x c hx e] at z
  simpa using z
 ·rcases fa with rfl | ⟨x,e⟩
  ·exact hz
  ·exact Nat.le_trans hz (le_of_lt (X.above x a (mem_of_lookup e)))
 ·rcases fa with rfl | ⟨x,e⟩
  ·exact az
  ·exact Heap.get?_none_of_le (le_of_lt (X.above x a (mem_of_lookup e)))
theorem vs1 {α:Type} {P:List α->Prop} (h:∀ a,P [a]):∀ l:List α,l.length = 1->P l:=fun l e=>by
 obtain ⟨a,rfl⟩:=List.length_eq_one_iff.mp e;exact h a
theorem vs2 {α:Type} {P:List α->Prop} (h:∀ a b,P [a,b]):∀ l:List α,l.length = 2->P l
 | a :: l,e=>vs1 (P:=fun l=>P (a :: l)) (h a) l (Nat.succ.inj e)
theorem vs4 {α:Type} {P:List α->Prop} (h:∀ a b c d,P [a,b,c,d]):∀ l:List α,l.length = 4->P l
 | a :: b :: l,e=>vs2 (P:=fun l=>P (a :: b :: l)) (h a b) l (Nat.succ.inj (Nat.succ.inj e))
inductive Glb (W:Wd) (env:Env) (x:Str) (v:Value):Prop where
 | top:env.kindOf x = some .globalImplicit->nsIn W.K mainGlobals x = some (some v)->Glb W env x v
 | built:env.kindOf x = some .globalImplicit->nsIn W.K mainGlobals x = some none->bootBuiltins x = some v->x ≠ "__name__"->Glb W env x v
variable {Q:Value->Shared->Prop}
theorem bT {M:Model} {x:Str} (hW:Wok W T) (g:Gd W T s.heap) (F:Fm W s.heap env vm) (hx:Glb W env x v) (h:Q v s)
  (hd:autoParam ((x == ("__debug__" : Str)) = false) deT):wpAny M A (eval (.Name x pos) env) Q E s:=by
 cases hx with
 | top hk e=>exact Calls.Name_function_global F.kind hk (Calls.loadGlobal_global (F.glob.symm ▸ g.g) (mg_of g.k g.g e) h) hd
 | built hk e e2 hn=>exact Calls.Name_function_global F.kind hk (Calls.loadGlobal_builtin (F.glob.symm ▸ g.g) (mg_none_of g.k g.g e) (F.blt.symm ▸ g.b) ((hW.bi x hn).trans e2) h) hd
structure j5 (W:Wd) (T:Heap->Prop) (n:Nat) (env:Env) (μ:Str->Option D) (es:List Expr) (ds:List D):Prop where
 of ::
 run:∀ (A:Around) (s:Shared) (vm:Str->Option Value) (O:List Addr) (M:Addr->Prop) (pos:Pos),aL n A->Ok W T M s->Fm W s.heap env vm->bz s.heap O M vm μ->
  ∀ (Q:List Value->Shared->Prop) (E:Value->Shared->Prop),(∀ vs h' tk,s.toks <= tk->Stp W T s.heap h'->am h' O M vs ds->Q vs { s with heap:=h',toks:=tk })->
   wpAny (model W.prog W.w) A (spliced (backTo pos (starEach es env))) Q E s
theorem ak:j5 W T n env μ [] []:=.of fun _ s _ _ _ _ _ k _ _ _ _ q=>spliced_none (q [] s.heap s.toks (Nat.le_refl _) (.refl k.gd) .nil)
theorem af {es:List Expr} (h1:EVP W T n env μ e d) (h2:j5 W T n env μ es ds) (he:autoParam (starEach (e :: es) env = (false,eval e env) :: starEach es env) rfT):j5 W T n env μ (e :: es) (d :: ds):=by
 refine .of ?_;intro A s vm O M pos r k F V Q E q;refine spliced_more (h1.run A s vm O M r k F V _ _ fun v h1a tA lA sI dA=>?_) he
 have kI:=k.step lA sI;refine h2.run A _ vm O M pos r kI (F.step k.gd sI.kp) (V.st k.gd sI.kp) _ _ fun vs hJ tJ lB sB dB=>?_
 exact q _ hJ tJ (Nat.le_trans lA lB) (sI.trans sB) (.cons (dA.st sI.gd sB.kp) dB)
structure EVF (W:Wd) (T:Heap->Prop) (n:Nat) (env:Env) (μ:Str->Option D) (e:Expr) (ds:List D):Prop where
 of ::
 run:∀ (A:Around) (s:Shared) (vm:Str->Option Value) (O:List Addr) (M:Addr->Prop),aL n A->Ok W T M s->Fm W s.heap env vm->bz s.heap O M vm μ->
  ∀ (Q E:Value->Shared->Prop),(∀ a vs h' tk,s.toks <= tk->Stp W T s.heap h'->s.heap.get? a = none->W.nb <= a->h'.PlainList a vs.toArray->am h' O (fun b=>M b \/ b = a) vs ds->Q (.ref a) { s with heap:=h',toks:=tk })->
   wpAny (model W.prog W.w) A (eval e env) Q E s
theorem EVF.ev (h:EVF W T n env μ e ds):EVP W T n env μ e (.list ds):=by
 refine .of ?_;intro A s vm O M r k F V Q E q;refine h.run A s vm O M r k F V Q E fun a vs h' tk le st hn _ pl dl=>q _ h' tk le st (.list pl (fun m=>?_) (dl.kseq (.refl _) (fun _ _ e=>e) fun _ m _=>.inl m))
 have:=(k.live a m).2;rw [hn] at this;cases this
variable {elts:List Expr}
theorem cm (hW:Wok W T) (h:j5 W T n env μ elts ds) (hl:ds.length <= 1000):EVF W T n env μ (.List elts pos) ds:=by
 refine .of ?_;intro A s vm O M r k F V Q E q;refine List_ (h.run A s vm O M pos r k F V _ _ fun vs h1a tA lA sI dA=>?_)
 have kp:∀ a o,h1a.get? a = some o->(h1a.push { cls:=.type "list",data:=.seq vs.toArray }).get? a = some o:=fun a o e=>Heap.get?_push_of_some _ e
 have st:Stp W T h1a (h1a.push { cls:=.type "list",data:=.seq vs.toArray }):=.of hW sI.gd kp;refine wpAny_newObj_type (q h1a.objs.size vs _ _ lA (sI.trans st) ?_ sI.gd.size ⟨0,Heap.get?_push_size _ rfl⟩ (dA.step sI.gd st.kp (fun _ _ e=>e) fun a m hs=>m.elim id fun z=>by rw [z,az] at hs;cases hs)) (by
  show vs.toArray.size <= sizeLine;rw [List.size_toArray,dA.length,sizeLine_eq];omega)
 cases e:s.heap.get? h1a.objs.size with
 | none=>rfl
 | some o=>
  by_cases ht:h1a.objs.size = W.tab
  ·obtain ⟨vs,q⟩:=sI.gd.tab;rw [<- ht,az] at q;cases q
  ·have:=sI.kp _ o ht e;rw [az] at this;cases this
theorem aY (hW:Wok W T) (h:j5 W T n env μ elts ds) (hl:autoParam (ds.length <= 1000) deT):EVP W T n env μ (.List elts pos) (.list ds):=(cm hW h hl).ev
variable {h1a:Heap}
theorem ij (k:Ok W T M s) (sI:Stp W T s.heap h1a):¬ M h1a.objs.size:=fun m=>by
 obtain ⟨hne,hs⟩:=k.live _ m;obtain ⟨o,e⟩:=Option.isSome_iff_exists.mp hs;have:=sI.kp _ o hne e;rw [az] at this;cases this
theorem hV (hW:Wok W T) (h:j5 W T n env μ elts ds) (hl:autoParam (ds.length <= 1000) deT):EVP W T n env μ (.Tuple elts j pos) (.tup ds):=by
 refine .of ?_;intro A s vm O M r k F V Q E q;refine Tuple_ (h.run A s vm O M pos r k F V _ _ fun vs h1a tA lA sI dA=>?_)
 have kp:∀ a o,h1a.get? a = some o->(h1a.push { cls:=.type "tuple",data:=.seq vs.toArray }).get? a = some o:=fun a o e=>Heap.get?_push_of_some _ e
 have st:Stp W T h1a (h1a.push { cls:=.type "tuple",data:=.seq vs.toArray }):=.of hW sI.gd kp;exact wpAny_newObj_type (q _ _ _ lA (sI.trans st) (.tup ⟨0,Heap.get?_push_size _ rfl⟩ (ij k sI) (dA.st sI.gd st.kp))) (by
  show vs.toArray.size <= sizeLine;rw [List.size_toArray,dA.length,sizeLine_eq];omega)
theorem rA {M:Model} {t:Sem Value} (ht:wpAny M A t Q E s):wpAny M A (t >>= fun r=>holding [r] point >>= fun _=>pure r) Q E s:=
 wpAny_bind (wpAny_mono ht (fun r sB hr=>wpAny_bind (wpAny_holding (wpAny_point (wpAny_pure hr)))) fun _ _ x=>x)
theorem aO {M:Model} {f:Value} {first:List Value} {args:List (Bool × Sem Value)} (hf:keeperOf f = pure .machine) (hplain:args.any (·.1) = false)
  (h:wpAny M A (evalArgs f true args []) (fun a sI=>wpAny M A (call f (first ++ a.pos) a.kw) Q E sI) E s):wpAny M A (callWith pos f first args []) Q E s:=by
 unfold callWith;refine wpAny_bind (wpAny_holding (wpAny_mono h (fun a sI h1a=>wpAny_bind (wpAny_standAt ?_)) fun _ _ x=>x))
 simp only [hplain,List.any_nil,Bool.or_false];rw [hf];exact wpAny_bind (wpAny_pure (rA h1a))
theorem iM {M:Model} {f:Value} {es:List Expr} {Q:Args->Shared->Prop}
  (h:wpAny M A (spliced (backTo pos (starEach es env))) (fun vs sI=>Q ⟨vs,[]⟩ sI) E s) (hp:(backTo pos (starEach es env)).any (·.1) = false):wpAny M A (evalArgs f true (backTo pos (starEach es env)) []) Q E s:=by
 generalize backTo pos (starEach es env) = ts at h hp
 cases ts with
 | nil=>
  unfold evalArgs;show wpAny M A (spliced [] >>= _) Q E s;refine wpAny_bind (wpAny_mono h (fun vs s' h'=>?_) fun _ _ x=>x)
  refine wpAny_bind (wpAny_pure ?_)
  refine wpAny_holding ?_
  exact wpAny_bind (wpAny_pure (wpAny_bind (wpAny_pure (wpAny_pure h'))))
 | cons t r=>
  obtain ⟨b,x⟩:=t
  cases b with
  | true=>simp at hp
  | false=>exact Calls.evalArgs_plain h
variable {as:List D}
theorem FP.n0 {f:Value} (h:FP W T n f as d):FP W T (n + 1) f as d:=h.le (le_succ n)
variable {np:Pos}
theorem a7 (hW:Wok W T) {x:Str} {es:List Expr} {f:Value} (hx:Glb W env x f) (ha:j5 W T n env μ es ds) (hf:FP W T n f ds d)
  (hk:keeperOf f = pure .machine) (hp:autoParam (∀ pos,(backTo pos (starEach es env)).any (·.1) = false) r1T) (hd:autoParam ((x == ("__debug__" : Str)) = false) deT):EVP W T n env μ (.Call (.Name x np) es [] pos) d:=by
 refine .of ?_;intro A s vm O M r k F V Q E q;refine Call_Name rfl (bT hW k.gd F hx ?_ hd)
 refine aO hk (hp pos) (iM (ha.run A s vm O M pos r k F V _ _ fun vs h1a tA lA sI dA=>?_) (hp pos))
 exact hf.run A _ O M vs r (k.step lA sI) dA Q E fun v hJ tJ lB sB dB=>q v hJ tJ (Nat.le_trans lA lB) (sI.trans sB) dB
variable {oc:Value} {od:Option Addr} {osl:Array (Option Value)}
theorem bG (hW:Wok W T) {x:Str} {es:List Expr} {f:Addr} (hx:Glb W env x (.ref f)) (ho:W.K.lookup f = some ⟨oc,od,.func fd,osl⟩)
  (ha:j5 W T n env μ es ds) (hf:FP W T n (.ref f) ds d) (hp:autoParam (∀ pos,(backTo pos (starEach es env)).any (·.1) = false) r1T) (hd:autoParam ((x == ("__debug__" : Str)) = false) deT):EVP W T n env μ (.Call (.Name x np) es [] pos) d:=by
 refine .of ?_;intro A s vm O M r k F V Q E q;refine Call_Name rfl (bT hW k.gd F hx ?_ hd)
 refine callWith_function_kw (iM (ha.run A s vm O M pos r k F V _ _ fun vs h1a tA lA sI dA=>⟨⟨sI.gd.k f _ ho,rfl⟩,?_⟩) (hp pos))
 exact hf.run A _ O M vs r (k.step lA sI) dA Q E fun v hJ tJ lB sB dB=>q v hJ tJ (Nat.le_trans lA lB) (sI.trans sB) dB
variable {h0a:ExceptHandler} {hs:List ExceptHandler}
theorem jG (hb:EX W T n env μ Θ (execs body env) o):EX W T n env μ Θ (exec (.Try body (h0a :: hs) [] [] pos) env) o:=by
 refine .of ?_;intro A s vm O M0 r t R Q E q;refine wpAny_Try_except (hb.run A s vm O M0 r t R _ _ fun f h' tk le p=>?_)
 have q':=q f h' tk le p
 cases f with
 | next=>exact wpAny_execs_nil q'
 | _=>exact q'
theorem mo {a b:Str}:CMP W T .In (.str a) (.str b) (Txt.contains b a):=by
 refine .of ?_;intro A s O M x y _ _ k dx dy Q E hQ;induction dx using sE;induction dy using sE;exact PySem.SB.contains (hQ s.heap _ (Nat.le_refl _) (.refl k.gd))
variable {k:Nat} {p:Pos}
theorem lm {M:Model} {x:Str} (h:Q (.str x s.toks) { s with toks:=s.toks + 1 }):wpAny M A (eval (.Constant (.str x) k p) env) Q E s:=fun _ _ _=>h
variable {apos:Pos}
theorem sY {ob:Expr} {x a b:Str} {pA pB:Pos} {kI kJ:Nat} (ho:EVP W T n env μ ob (.str x)) (r:aL n A) (k:Ok W T M s) (F:Fm W s.heap env vm) (V:bz s.heap O M vm μ) (h0:0 < s.toks) (hx:x.length <= 1500000) (hb:b.length <= 10)
  (q:∀ v h' tk,s.toks <= tk->Stp W T s.heap h'->Den h' O M v (.str (Txt.replace x a b))->Q v { s with heap:=h',toks:=tk }) (hbase:autoParam (attributeBase ob "replace" env (eval ob env) = eval ob env) rfT) (hline:autoParam ((apos.endLine == pos.line) = true) rfT) :
  wpAny (model W.prog W.w) A (eval (.Call (.Attribute ob "replace" apos) [.Constant (.str a) kI pA,.Constant (.str b) kJ pB] [] pos) env) Q E s:=by
 refine Call_method2 hbase rfl hline (ho.run A s vm O M r k F V _ _ fun v h1a tA lA sI dA=>?_)
 induction dA using sE with
 | str t=>
 refine ⟨"str", "str.replace",PySem.F.plainAttrs_str,PySem.F.slot_str_replace,rfl,typeIs_str _ _ _,(fun _ e=>nomatch e),?_⟩
 have t0:0 < tA:=Nat.lt_of_lt_of_le h0 lA;refine Calls.callWith_builtin rfl (Calls.evalArgs_plain (Calls.spliced_cons (lm (Calls.spliced_cons (lm (Calls.spliced_nil ?_))))))
 refine wpAny_with_toks (n:=s.toks) (Nat.le_trans lA (le_add_right tA 2)) (SC.replaceW2 1500000 10 (by decide) (ne_of_gt t0) (Nat.succ_ne_zero _) (ne_of_lt (lt_succ_self _)) hx hb (fun t' kk le=>?_) sI.gd.nobook)
 exact q _ h1a kk le sI (.str ..)
noncomputable abbrev S (l:List Nat):Str:=⟨l.toArray⟩
theorem zb (l:List Nat):(S l).cps.toList = l:=rfl
theorem zU (x:Str):S x.cps.toList = x:=by cases x;rfl
theorem ft (l:List Nat):(S l).length = l.length:=by show l.toArray.size = _;simp
theorem oY {l m:List Nat} (h:S l = S m):l = m:=by have:=congrArg (fun x:Str=>x.cps.toList) h;simpa using this
noncomputable def sub (c:Nat) (z:List Nat) (k:Nat):List Nat:=if k = c then z else [k]
theorem jr (c:Nat) (z:List Nat):∀ l:List Nat,c ∉ l->l.flatMap (sub c z) = l
 | [],_=>rfl
 | k :: r,h=>by
  have h1:¬ k = c:=fun e=>h (e ▸ List.mem_cons_self ..)
  have h2:c ∉ r:=fun m=>h (List.mem_cons_of_mem _ m)
  rw [flatMap_cons,jr c z r h2,sub,if_neg h1];rfl
theorem pi (c:Nat) (z:Str):∀ parts:List Str,(∀ p ∈ parts,c ∉ p.cps.toList)->(Str.join ⟨#[c]⟩ parts).cps.toList.flatMap (sub c z.cps.toList) = (Str.join z parts).cps.toList
 | [],_=>rfl
 | [p],h=>jr c _ _ (h p (List.mem_singleton.mpr rfl))
 | p :: q :: r,h=>by
  have ih:=pi c z (q :: r) fun a ha=>h a (List.mem_cons_of_mem _ ha)
  show (p ++ ⟨#[c]⟩ ++ Str.join ⟨#[c]⟩ (q :: r)).cps.toList.flatMap (sub c z.cps.toList) = (p ++ z ++ Str.join z (q :: r)).cps.toList;simp only [Str.cps_append,Array.toList_append,List.flatMap_append];rw [ih,jr c _ _ (h p (List.mem_cons_self ..))];simp [sub]
theorem pj (l:List Nat) (c:Nat) (z:List Nat):Txt.replace (S l) ⟨#[c]⟩ (S z) = S (l.flatMap (sub c z)):=by
 have h:=pi c (S z) _ (StrLaws.split_free (S l) c);rw [StrLaws.join_split] at h;rw [StrLaws.replace_one,<- zU (Str.join (S z) (Txt.split (S l) ⟨#[c]⟩)),<- h]
theorem jJ (l:List Nat) (c:Nat):Txt.contains (S l) ⟨#[c]⟩ = decide (c ∈ l):=StrLaws.found_one (S l) c
theorem pf {α:Type} {m:Str->Option α} {x:Str} {v:α} (h:m x = some v):upd m x v = m:=by
 funext y
 unfold upd;split
 ·rename_i e;rw [e,h]
 ·rfl
theorem bp (hW:Wok W T) {t a b a':Str} {c:Nat} {z l:List Nat} {kI kJ kC:Nat} {pA pB pC pL pE pF pG pH pX pAO:Pos} (ht:μ t = some (.str (S l))) (ha:a = ⟨#[c]⟩) (ha':a' = ⟨#[c]⟩) (hb:b = S z) (hl:l.length <= 1500000) (hz:z.length <= 10)
  (hk:env.kindOf t = some .local) (hs:swapsWith (.Call (.Attribute (.Name t pE) "replace" pF) [.Constant (.str a') kJ pG,.Constant (.str b) kC pH] [] pX) (some (.Name t pL)) pAO.line env = pure false)
  (hd:(t == ("__debug__" : Str)) = false) (hline:(pF.endLine == pX.line) = true) :
  EX W T n env μ Θ (exec (.If (.Compare (.Constant (.str a) kI pA) [.In] [.Name t pB] pC) [.Assign [.Name t pL] (.Call (.Attribute (.Name t pE) "replace" pF) [.Constant (.str a') kJ pG,.Constant (.str b) kC pH] [] pX) pAO] [] pos) env)
   (.nxt (upd μ t (.str (S (l.flatMap (sub c z))))) Θ):=by
 subst ha ha' hb;refine .of ?_;intro A s vm O M0 r tq R Q E q;have k:=R.toRpH.ok tq;have hn:=aa (W:=W) (T:=T) (n:=n) (pos:=pB) ht (dX hk hd);refine wpAny_If (wpAny_isTrue_Compare1 (lm ?_) rfl)
 refine hn.run A { s with toks:=s.toks + 1 } vm O _ r ⟨k.gd,k.live,zero_le _⟩ R.fm R.vars _ _ fun y hJ tJ lB sB dB=>?_
 have lB:s.toks + 1 <= tJ:=lB;have kJ:=k.step (tk:=tJ) (by omega) sB
 refine mo.run A { s with heap:=hJ,toks:=tJ } O _ _ y r.handled (by have:=r.units;omega) kJ (.str _ s.toks) dB _ E fun h3a tC l3 sC=>wpAny_truthy_bool ?_
 have l3:tJ <= tC:=l3;have kC:=kJ.step l3 sC;have R3:=R.step (sB.trans sC);have le:s.toks <= tC:=by omega
 rw [jJ];by_cases h:c ∈ l
 ·rw [decide_eq_true h];have sto:Sto env t = true:=by unfold Sto;rw [hk]
  refine wpAny_execs_cons (wpAny_Assign_Name (sY (aa (pos:=pE) ht (dX hk hd)) r (R3.toRpH.ok (s:={ s with heap:=h3a,toks:=tC }) (zero_le _)) R3.fm R3.vars (by show 0 < tC;omega) (by rw [ft];exact hl) (by rw [ft];exact hz) (fun v h4a tD lD sD d4=>?_) rfl hline) hs)
  rw [pj] at d4;have lD:tC <= tD:=lD;have R4:=R3.step sD;refine bV R4.fm sto fun b h' tk l5 fs sb F'=>?_
  have l5:tD <= tk:=l5;have fb:Fx env b:=fs.elim (fun q=>.inl q.2) fun q=>.inr ⟨t,q.2⟩
  obtain ⟨R5,x5⟩:=R4.stored hW fb sb F' d4;exact wpAny_execs_nil (q _ h' tk (by omega) ⟨rfl,_,O,R5,(Nx.of ((sB.trans sC).trans sD)).trans x5 R.len⟩)
 ·rw [decide_eq_false h];rw [jr c z l h,pf ht] at q;exact wpAny_execs_nil (q _ h3a tC le ⟨rfl,vm,O,R3,.of (sB.trans sC)⟩)
theorem aZ (c:Nat) (z:List Nat) (m:Nat) (hz:z.length <= m) (hm:1 <= m):∀ l:List Nat,(l.flatMap (sub c z)).length <= m * l.length
 | []=>Nat.le_refl _
 | k :: r=>by
  have ih:=aZ c z m hz hm r;rw [flatMap_cons,length_append,length_cons,Nat.mul_succ];have:(sub c z k).length <= m:=by
   unfold sub;split
   ·exact hz
   ·exact hm
  omega
noncomputable def dK (e:Expr):List Str:=((nameOf? e).map fun x=>[x]).getD (((itemsOf? e).getD []).filterMap nameOf?)
noncomputable def Fs (env:Env) (x:Str) (a:Addr):Prop:=(env.kindOf x = some .local /\ a = env.locals) \/ (env.kindOf x = some .cell /\ env.cells.lookup x = some a)
noncomputable def Ft (env:Env) (tgt:Expr) (a:Addr):Prop:=∃ x,x ∈ dK tgt /\ Fs env x a
variable {tgt:Expr}
theorem Ft.fx {a:Addr} (f:Ft env tgt a):Fx env a:=by
 obtain ⟨x,_,h | h⟩:=f
 ·exact .inl h.2
 ·exact .inr ⟨x,h.2⟩
structure ASG (W:Wd) (T:Heap->Prop) (n:Nat) (env:Env) (tgt:Expr) (d:D) (μ μ':Str->Option D):Prop where
 of ::
 run:∀ (A:Around) (s:Shared) (vm:Str->Option Value) (O:List Addr) (M:Addr->Prop) (v:Value),aL n A->Ok W T M s->Fm W s.heap env vm->bz s.heap O M vm μ->Den s.heap O M v d->
  ∀ (Q:Unit->Shared->Prop) (E:Value->Shared->Prop),(∀ vm' h' tk,s.toks <= tk->Gd W T h'->KpX W (Ft env tgt) s.heap h'->Fm W h' env vm'->bz h' O M vm' μ'->Q () { s with heap:=h',toks:=tk })->
   wpAny (model W.prog W.w) A (assign tgt env v) Q E s
theorem mY (g:Gd W T h) (F:Fm W h env vm) (k:KpX W (Fx env) h h'):aN M h h':=fun a o xs j _ e hd=>
 k a o (g.ne_tab e (nf hd rfl)) (fun f=>by
  obtain ⟨o',e',q⟩:=F.at_fx f;rw [e] at e';cases e';exact q xs j hd) e
theorem ay (hW:Wok W T) {x:Str} (hk:Sto env x = true):ASG W T n env (.Name x p) d μ (upd μ x d):=by
 refine .of ?_;intro A s vm O M v r k F V dv Q E q;refine wpAny_assign_Name (bV F hk fun b h' tk le fs sb F'=>?_)
 have fb:Fx env b:=Ft.fx (tgt:=.Name x p) ⟨x,.head _,fs⟩;obtain ⟨o,ho,hd⟩:=F.at_fx fb;have ks:=jl sb ho hd;exact q _ h' tk le (k.gd.same hW (F.above b fb) (F.nc fb) sb) (fun a o _ nx e=>(sb.2 a fun q=>nx ⟨x,.head _,q ▸ fs⟩).trans e) F' ((V.upd dv).kq ks.m)
variable {vm':Str->Option Value}
theorem vw {tk:Nat} {vm:Str->Option Value} (k:Ok W T M s) (le:s.toks <= tk) (g:Gd W T h') (kp:KpX W (Fx env) s.heap h') (F':Fm W h' env vm'):Ok W T M { s with heap:=h',toks:=tk }:=
 ⟨g,fun a m=>⟨(k.live a m).1,dp g kp a (fun f=>let ⟨_,e,_⟩:=F'.at_fx f;by rw [e];rfl) (k.live a m).2⟩,Nat.le_trans k.tk le⟩
variable {y:Str}
theorem eT (hW:Wok W T) {x:Str} {q pt:Pos} {e:D} (hx:Sto env x = true) (hy:Sto env y = true):ASG W T n env (.Tuple [.Name x p,.Name y q] j pt) (.tup [d,e]) μ (upd (upd μ x d) y e):=by
 refine .of ?_;intro A s vm O M v r k F V dv Q E qq
 induction dv using tE with
 | tup pl hm dl=>
 rename_i a vs
 induction dl using kE with
 | cons d1 dl=>
 induction dl using kE with
 | cons d2 dl=>
 induction dl using qE;rename_i v1 _ v2 _;refine wpAny_assign_Tuple r.handled pl.isTuple rfl rfl fun h1a ex=>?_
 have kp:∀ a o,s.heap.get? a = some o->h1a.get? a = some o:=fun a o e=>ex a o (ne_of_lt (Heap.lt_size e)) e
 have st:Stp W T s.heap h1a:=.of hW k.gd kp;have kI:Ok W T M { s with heap:=h1a,toks:=s.toks }:=k.step (Nat.le_refl _) st
 show wpAny _ A (assignInOrder [assign (.Name x p) env,assign (.Name y q) env] [v1,v2]) Q E _;unfold assignInOrder;refine wpAny_bind (wpAny_holding ((ay (n:=n) hW hx).run A _ vm O M v1 r kI (F.step k.gd st.kp) (V.st k.gd st.kp) (d1.st k.gd st.kp) _ _ fun vm2 hJ tJ lB gB kp2 F2 VB=>?_))
 unfold assignInOrder;have F1:=F.step k.gd st.kp;have kp2':KpX W (Fx env) h1a hJ:=fun a o ht nf e=>kp2 a o ht (fun q=>nf q.fx) e
 have d2':Den hJ O M v2 e:=(d2.st k.gd st.kp).kq (mY st.gd F1 kp2');have kJ:Ok W T M { s with heap:=hJ,toks:=tJ }:=by
  have z:=vw (vm:=vm) kI lB gB kp2' F2;exact z
 refine wpAny_bind (wpAny_holding ((ay (n:=n) hW hy).run A _ vm2 O M v2 r kJ F2 VB d2' _ _ fun vm3 h3a tC l3 gC kp3 F3 V3=>?_))
 unfold assignInOrder;refine wpAny_pure (qq vm3 h3a tC (Nat.le_trans lB l3) gC ?_ F3 V3)
 exact fun a o ht nf e=>kp3 a o ht (fun ⟨z,hz,q⟩=>nf ⟨z,show z ∈ [x,y] from .tail _ hz,q⟩) (kp2 a o ht (fun ⟨z,hz,q⟩=>nf ⟨z,show z ∈ [x,y] from List.mem_singleton.mp (show z ∈ [x] from hz) ▸ .head _,q⟩) (kp a o e))
theorem Rp.asg (ha:ASG W T n env tgt d μ μ') (r:aL n A) (t:0 <= s.toks) (R:Rp W T env M0 μ Θ s.heap vm O)
  (dv:Den s.heap O (Mx M0 O Θ) v d) {Q:Unit->Shared->Prop} 
  (q:∀ vm' h' tk,s.toks <= tk->Rp W T env M0 μ' Θ h' vm' O->Nx W (Fx env) s.heap O Θ h' O Θ->Q () { s with heap:=h',toks:=tk }):wpAny (model W.prog W.w) A (assign tgt env v) Q E s:=by
 refine ha.run A s vm O _ v r (R.toRpH.ok t) R.fm R.vars dv Q E fun vm' h' tk le g kp0 F' V'=>?_
 have kp:KpX W (Fx env) s.heap h':=fun a o ht nf e=>kp0 a o ht (fun q=>nf q.fx) e
 have gr:=fun a=>dp g kp a fun f=>let ⟨_,e,_⟩:=F'.at_fx f;by rw [e];rfl
 exact q vm' h' tk le ⟨R.toRpH.tr g kp (fun _ m=>m) (fun a _=>gr a) (fun a f l=>R.sep a l f) (mY R.gd R.fm kp),F',V',R.sep⟩ ⟨fun a o ht nx e=>kp a o ht (fun f=>nx (.inl f)) e,.refl _ _,gr,.refl _⟩
structure Wk (W:Wd) (T:Heap->Prop) (A:Around) (I:Value) (wr:Addr->Prop) (h1a:Heap) (O:List Addr) (M:Addr->Prop) (St:List D->Heap->Prop) (tgt:Expr):Prop where
 inM:∀ a,wr a->M a
 there:∀ r h a,St r h->wr a->(h.get? a).isSome
 frame:∀ r h h',St r h->(∀ a o,h.get? a = some o->(wr a \/ ((∃ xs n,o.data = .seq xs n) /\ ¬ M a /\ (h1a.get? a).isSome))->h'.get? a = some o)->St r h'
 item:∀ d r (s:Shared) (M':Addr->Prop) (P:Option Value->Shared->Prop) (Q:Value->Shared->Prop) (E:Value->Shared->Prop),Ok W T M' s->(∀ a,M' a->(h1a.get? a).isSome->M a)->St (d :: r) s.heap->
  (∀ v sI,wpAny (model W.prog W.w) A (letOwnedTupleGo tgt I v) (fun _ sB=>Q v sB) E sI->P (some v) sI)->
  (∀ v h' tk,s.toks <= tk->Gd W T h'->KpX W wr s.heap h'->St r h'->Den h' O M' v d->Q v { s with heap:=h',toks:=tk })->wpAny (model W.prog W.w) A (pyNext I) P E s
 done:∀ (s:Shared) (Q:Option Value->Shared->Prop) (E:Value->Shared->Prop),Gd W T s.heap->St [] s.heap->
  (∀ h' tk,s.toks <= tk->Gd W T h'->KpX W wr s.heap h'->Q none { s with heap:=h',toks:=tk })->wpAny (model W.prog W.w) A (pyNext I) Q E s
 self:∀ r (s:Shared) (Q:Value->Shared->Prop) (E:Value->Shared->Prop),St r s.heap->Q I s->wpAny (model W.prog W.w) A (pyIter I) Q E s
structure ITR (W:Wd) (T:Heap->Prop) (n:Nat) (env:Env) (μ:Str->Option D) (e tgt:Expr) (ds:List D):Prop where
 of ::
 run:∀ (A:Around) (s:Shared) (vm:Str->Option Value) (O:List Addr) (M:Addr->Prop),aL n A->Ok W T M s->Fm W s.heap env vm->bz s.heap O M vm μ->
  ∀ (Q E:Value->Shared->Prop),(∀ I wr St h' tk,s.toks <= tk->Stp W T s.heap h'->(∀ a,wr a->s.heap.get? a = none /\ a ≠ W.tab /\ W.nb <= a)->St ds h'->Wk W T A I wr h' O (fun a=>M a \/ wr a) St tgt->Q I { s with heap:=h',toks:=tk })->
   wpAny (model W.prog W.w) A (eval e env) (fun x sI=>wpAny (model W.prog W.w) A (pyIter x) Q E sI) E s
inductive LP (W:Wd) (T:Heap->Prop) (n:Nat) (env:Env) (tgt:Expr) (body:List Stmt):List D->(Str->Option D)->List ac->Out->Prop where
 | nil {μ:Str->Option D} {Θ:List ac}:LP W T n env tgt body [] μ Θ (.nxt μ Θ)
 | cons {d:D} {ds:List D} {μ μ1 μ2:Str->Option D} {Θ Θ2:List ac} {o:Out}:ASG W T n env tgt d μ μ1->EX W T n env μ1 Θ (execs body env) (.nxt μ2 Θ2)->LP W T n env tgt body ds μ2 Θ2 o->LP W T n env tgt body (d :: ds) μ Θ o
noncomputable def bS (μ' μ:Str->Option D):Prop:=∀ x d,μ' x = some d->μ x = some d
theorem Rp.sub (R:Rp W T env M0 μ Θ h vm O) (hs:bS μ' μ):Rp W T env M0 μ' Θ h vm O:={ R with vars:=fun x d e=>R.vars x d (hs x d e) }
theorem EX.sub {c:Sem Flow} (h:EX W T n env μ Θ c (.nxt μ' Θ')) (hs:bS μ'' μ'):EX W T n env μ Θ c (.nxt μ'' Θ'):=by
 refine .of ?_;intro A s vm O M0 r t R Q E q;refine h.run A s vm O M0 r t R Q E fun f h' tk le p=>q f h' tk le ?_
 obtain ⟨a,vm',O',R',x⟩:=p;exact ⟨a,vm',O',R'.sub hs,x⟩
theorem EX.pre {c:Sem Flow} (h:EX W T n env μ' Θ c o) (hs:bS μ' μ):EX W T n env μ Θ c o:=
 .of fun A s vm O M0 r t R Q E q=>h.run A s vm O M0 r t (R.sub hs) Q E q
theorem Mx.mono (h:∀ a,M a->M' a) {a:Addr} (m:Mx M O Θ a):Mx M' O Θ a:=m.imp (h a) id
variable {wr:Addr->Prop}
theorem Nx.ofX (kp:KpX W wr h h') (hx:∀ a,wr a->X a) (gr:∀ a,(h.get? a).isSome->(h'.get? a).isSome):Nx W X h O Θ h' O Θ:=
 ⟨fun a o ht nx e=>kp a o ht (fun q=>nx (.inl (hx a q))) e,.refl h O,gr,.refl Θ⟩
theorem Rp.moved (R:Rp W T env M0 μ Θ h vm O) (hw:∀ a,wr a->M0 a) (nf:∀ a,wr a->¬ Fx env a) (g:Gd W T h') (kp:KpX W wr h h') (al:∀ a,wr a->(h'.get? a).isSome):Rp W T env M0 μ Θ h' vm O:=
 R.tr g kp (fun _ m=>m) (fun a _=>dp g kp a (al a)) nf (fun a w ⟨_,_,h1,_⟩=>R.apart a (mem_of_getElem? h1) (hw a w)) fun b o _ _ nb e hd=>kp b o (R.gd.ne_tab e (Mine.nf hd rfl)) (fun q=>nb (.inl (hw b q))) e
variable {prog:Program} {w:World} {R:Result->Shared->Prop}
theorem jp {it:Value} 
  (h:wpAny (model prog w) A (pyNext it) (fun r sI=>match r with
   | none=>R (.ok .next) sI
   | some v=>wpAny (model prog w) A (letOwnedTupleGo tgt it v) (fun _ s1'=>
     wpAny (model prog w) A (assign tgt env v) (fun _ sB=>wpAny (model prog w) A (execs body env) (fun f sC=>match f with
      | .next | .cont=>codeAny (model prog w) A (.forLoop tgt it body [] env) R sC
      | .brk=>R (.ok .next) sC
      | .ret v=>R (.ok (.ret v)) sC) (notedBy (model prog w) A env fun e s'=>R (.error e) s') sB) (notedBy (model prog w) A env fun e s'=>R (.error e) s') s1') (notedBy (model prog w) A env fun e s'=>R (.error e) s') sI) (notedBy (model prog w) A env fun e s'=>R (.error e) s') s) :
  codeAny (model prog w) A (.forLoop tgt it body [] env) R s:=by
 refine codeAny_of_tree ?_
 show wpAny _ A ((forTurn tgt it body [] env).onRaise (fun x=>do noteFrame x env;theTreesLotGoes x)) _ _ s
 refine wpAny_noted ?_
 unfold forTurn;refine wpAny_bind (wpAny_standAt (wpAny_bind (wpAny_onRaise (wpAny_mono h (fun r sI h1a=>?_) fun _ _ h'=>wpAny_standAt h'))))
 cases r with
 | none=>exact wpAny_pure ⟨rfl,codeAny_block (wpAny_execs_nil h1a)⟩
 | some v=>exact wpAny_bind (wpAny_mono h1a (fun _ s1' hA'=>wpAny_bind (wpAny_mono hA' (fun _ sB hJ=>wpAny_bind (wpAny_mono hJ (fun f sC h3a=>match f,h3a with
   | .next,h3a=>wpAny_pure ⟨rfl,h3a⟩
   | .cont,h3a=>wpAny_pure ⟨rfl,h3a⟩
   | .brk,h3a=>wpAny_pure h3a
   | .ret _,h3a=>wpAny_pure h3a) fun _ _ h'=>h')) fun _ _ h'=>h')) fun _ _ h'=>h')
variable {O0:List Addr} {Θ0:List ac}
theorem vB {h0a:Heap} {I:Value} {St:List D->Heap->Prop} (r:aL n A) (sI:Stp W T h0a h1a) (fr:∀ a,wr a->h0a.get? a = none /\ a ≠ W.tab /\ W.nb <= a)
  (wk:Wk W T A I wr h1a O0 (fun a=>Mx M0 O0 Θ0 a \/ wr a) St tgt) (lO:O0.length = Θ0.length) (nfx:∀ a,wr a->¬ Fx env a) (nM:∀ a,M0 a->¬ wr a) (hl:LP W T n env tgt body ds μ Θ o) (t:0 <= s.toks) (st:St ds s.heap)
  (R':Rp W T env (fun a=>M0 a \/ wr a) μ Θ s.heap vm O) (nx:Nx W (fun a=>Fx env a \/ wr a) h1a O0 Θ0 s.heap O Θ) (q:∀ f h' tk,s.toks <= tk->ju W T env M0 h0a O0 Θ0 o f h'->R (.ok f) { s with heap:=h',toks:=tk }) :
  codeAny (model W.prog W.w) A (.forLoop tgt I body [] env) R s:=by
 have nlv:∀ {μ:Str->Option D} {Θ:List ac} {h:Heap} {vm:Str->Option Value} {O:List Addr},Rp W T env (fun a=>M0 a \/ wr a) μ Θ h vm O->∀ a,wr a->¬ bf O Θ a:=fun R' a w ⟨_,_,h1,_⟩=>R'.apart a (mem_of_getElem? h1) (.inr w)
 induction hl generalizing s vm O with
 | nil=>
  refine jp (wk.done _ _ _ R'.gd st fun hJ tJ lB gB kp2=>?_)
  have nw:∀ a,(h0a.get? a).isSome->¬ wr a:=fun a e w=>by rw [(fr a w).1] at e;cases e
  refine q _ hJ tJ lB ⟨rfl,vm,O,R'.tr gB kp2 (fun _ m=>.inl m) (fun a m=>dp gB kp2 a fun w=>absurd w (m.elim (nM a) fun m w=>R'.apart a m (.inr w))) nfx (nlv R') (fun b o _ _ nb e hd=>kp2 b o (R'.gd.ne_tab e (nf hd rfl)) (fun w=>nb (.inl (.inr w))) e),
   ⟨fun a ob ht nxx e=>?_,⟨nx.ext.pre,fun i a e=>(nx.ext.new i a e).imp id fun z=>?_⟩,fun a e=>dp gB kp2 a (fun w=>absurd w (nw a e)) (nx.grow a (cZ sI e)),nx.later⟩⟩
  ·have nw:=nw a (by rw [e];rfl)
   exact kp2 a ob ht nw (nx.kp a ob ht (fun z=>z.elim (fun z=>z.elim (fun f=>nxx (.inl f)) nw) fun l=>nxx (.inr l)) (sI.kp a ob ht e))
  ·exact Option.not_isSome_iff_eq_none.mp fun y=>by have:=cZ sI y;rw [z] at this;cases this
 | cons ha hb hr ih=>
  have back:∀ {h:Heap} {O:List Addr} {Θ:List ac} (nx:Nx W (fun a=>Fx env a \/ wr a) h1a O0 Θ0 h O Θ) a,bf O Θ a->(h1a.get? a).isSome->Mx M0 O0 Θ0 a:=fun nx a l hs=>.inr (gu nx.ext lO nx.later l hs)
  have keepSt:∀ {rs:List D} {h h':Heap} {O1 O2:List Addr} {Θ1 Θ2:List ac} {vm1:Str->Option Value} {μ1:Str->Option D},St rs h->Rp W T env (fun a=>M0 a \/ wr a) μ1 Θ1 h vm1 O1->Nx W (fun a=>Fx env a \/ wr a) h1a O0 Θ0 h O1 Θ1->Nx W (Fx env) h O1 Θ1 h' O2 Θ2->St rs h' /\ Nx W (fun a=>Fx env a \/ wr a) h1a O0 Θ0 h' O2 Θ2:=fun {rs h h' O1 O2 Θ1 Θ2 vm1 μ1} sth Rh n1 n2=>
   ⟨wk.frame rs h h' sth fun a ob e c=>c.elim (fun w=>n2.kp a ob (fr a w).2.1 (fun z=>z.elim (nfx a w) (nlv Rh a w)) e) fun ⟨⟨xs,j,hd⟩,nm,hs⟩=>n2.kp a ob (Rh.gd.ne_tab e (nf hd rfl)) (fun z=>z.elim (fun f=>by
    obtain ⟨ob',e',q⟩:=Rh.fm.at_fx f;exact q xs j (Option.some.inj (e.symm.trans e') ▸ hd)) fun l=>nm (.inl (back n1 a l hs))) e,n1.trans ⟨fun a ob ht z e=>n2.kp a ob ht (fun q=>z (q.imp .inl id)) e,n2.ext,n2.grow,n2.later⟩ lO⟩
  refine jp (wk.item _ _ _ _ _ _ _ (R'.toRpH.ok t) (fun a m hs=>m.elim (fun m=>m.imp .inl id) fun l=>.inl (back nx a l hs)) st (fun v sI h=>h) fun v hJ tJ lB gB kp2 stB dv=>?_)
  have al2:∀ a,wr a->(hJ.get? a).isSome:=fun a w=>wk.there _ hJ a stB w
  have R2:=R'.moved (wr:=wr) (fun a w=>.inr w) nfx gB kp2 al2
  have nx2:=nx.trans (.ofX kp2 (fun a w=>.inr w) fun a=>dp gB kp2 a (al2 a)) lO
  refine R2.asg ha r (Nat.le_trans t lB) (dv.kseq (.refl _) nx.ext.pre fun _ m _=>m) fun vm3 h3a tC l3 R3 nx3=>?_
  obtain ⟨st3,nK⟩:=keepSt stB R2 nx2 nx3;have l23:=Nat.le_trans lB l3;refine hb.run A _ vm3 _ _ r (Nat.le_trans t l23) R3 _ _ fun f h4a tD lD p=>?_
  obtain ⟨rfl,vm4,O4,R4,nx4⟩:=p;obtain ⟨st4,nL⟩:=keepSt st3 R3 nK nx4;have l24:=Nat.le_trans l23 lD;exact ih (Nat.le_trans t l24) st4 R4 nL fun f h' tk l p=>q f h' tk (Nat.le_trans l24 l) p
variable {iter:Expr}
theorem dJ (hi:ITR W T n env μ iter tgt ds) (hl:LP W T n env tgt body ds μ Θ o) (hn:o.stops = false) (hs:autoParam (∀ x,foldedSetIterable iter env x = pure x) r1T) :
  EX W T n env μ Θ (exec (.For tgt iter body [] pos) env) o:=by
 refine .of ?_;intro A s vm O M0 r t R Q E q;refine wpAny_For (hi.run A s vm O _ r (R.toRpH.ok t) R.fm R.vars _ _ fun I wr St h1a tA lA sI fr stA wk=>?_) hs
 have nw:∀ {a},(s.heap.get? a).isSome->¬ wr a:=fun e w=>by rw [(fr _ w).1] at e;cases e
 have nfx:∀ a,wr a->¬ Fx env a:=fun a w f=>let ⟨_,e,_⟩:=R.fm.at_fx f;nw (by rw [e];rfl) w
 have mb:∀ b,Mx (fun a=>M0 a \/ wr a) O Θ b->(s.heap.get? b).isSome->Mx M0 O Θ b:=fun b m e=>m.elim (fun m=>.inl (m.resolve_right (nw e))) .inr
 have R':=R.step sI;have R1:Rp W T env (fun a=>M0 a \/ wr a) μ Θ h1a vm O:=
  ⟨⟨R'.gd,fun a m=>m.elim (R'.live a) fun w=>⟨(fr a w).2.1,wk.there ds h1a a stA w⟩,R'.len,R'.nd,fun a ha m=>m.elim (R'.apart a ha) (nw (R.there a ha)),R'.above,R'.there,fun i a o h1 h2=>(R.obs i a o h1 h2).step R.gd sI.kp (fun _ _ e=>e) mb⟩,R'.fm,R.vars.step R.gd sI.kp (fun _ _ e=>e) mb,R'.sep⟩
 exact vB r sI fr wk R.len nfx (fun a m=>nw (R.live a m).2) hl (Nat.le_trans t lA) stA R1 (.refl ..) fun f h' tk l p=>q f h' tk (Nat.le_trans lA l) p
theorem am.get (x:am h O M vs ds) (i:Nat) (d:D) (e:ds[i]? = some d):∃ v,vs[i]? = some v /\ Den h O M v d:=by
 induction ds generalizing vs i with
 | nil=>cases e
 | cons d' ds ih=>induction x using kE with
  | cons x y=>cases i with
   | zero=>exact ⟨_,rfl,Option.some.inj e ▸ x⟩
   | succ i=>exact ih y i e
theorem gF {α:Type} {l r:List α} {d:α} {k:Nat} (h:d :: r = l.drop k):l[k]? = some d /\ r = l.drop (k + 1):=by
 have h0:(l.drop k)[0]? = some d:=by rw [<- h];rfl
 rw [List.getElem?_drop] at h0;refine ⟨by simpa using h0,?_⟩
 have:r = (l.drop k).drop 1:=by rw [<- h];rfl
 rw [List.drop_drop] at this;exact this
noncomputable abbrev b8 (tgt:Expr):Prop:=letOwnedTupleGo tgt = fun _ _=>pure ()
theorem lc (h:b8 tgt) (I v:Value):letOwnedTupleGo tgt I v = pure ():=congrFun (congrFun h I) v
noncomputable def o6 (M:Addr->Prop) (h1a h:Heap):Prop:=∀ a o xs n,¬ M a->h1a.get? a = some o->o.data = .seq xs n->h.get? a = some o
variable {I l:Addr}
theorem xg (hit:h.IsListIter I l k):∀ o,h.get? I = some o->¬ bH o:=fun o e=>by
 obtain ⟨o',e',_,hd⟩:=hit;rw [e] at e';cases e';exact cr hd fun q t z=>by simp at z
variable {fp:List Addr}
theorem zB (hW:Wok W T) {m:Nat} {P:Nat->Value->Prop} {St:Nat->Heap->Prop} (wk:Walks W.prog W.w A I fp [I] m P St) (hm:m = ds.length) (hI:M I) (hnb:W.nb <= I)
  (hfp:∀ b ∈ fp,b = I \/ ∃ o xs j,h1a.get? b = some o /\ o.data = .seq xs j /\ ¬ M b)
  (hP:∀ i v d h M',P i v->ds[i]? = some d->o6 M h1a h->(∀ a,M' a->(h1a.get? a).isSome->M a)->Den h O M' v d) (hth:∀ i h,St i h->∃ o,h.get? I = some o /\ ¬ bH o) (ht:b8 tgt) :
  Wk W T A (.ref I) (fun a=>a = I) h1a O M (fun r h=>∃ k,k <= m /\ St k h /\ r = ds.drop k /\ o6 M h1a h) tgt:=
 have ni:∀ {s h':Heap} {k:Nat},St k s->(∀ b o,b ∉ [I]->s.get? b = some o->h'.get? b = some o)->∀ a o,a < W.nb \/ bH o->s.get? a = some o->h'.get? a = some o:=fun st kp a o ha e=>kp a o (fun q=>by
  rw [List.mem_singleton.mp q] at e ha;obtain ⟨o',e',nc⟩:=hth _ _ st;exact ha.elim (fun ha=>absurd hnb (Nat.not_le.mpr ha)) (Option.some.inj (e'.symm.trans e) ▸ nc)) e
 {
  inM:=fun a e=>e ▸ hI
  there:=fun r h a ⟨k,_,st,_⟩ e=>let ⟨o,q,_⟩:=hth _ _ st;by rw [e,q];rfl
  frame:=fun r h h' ⟨k,hk,st,hr,hs⟩ kk=>⟨k,hk,wk.frame _ _ _ st fun b hb o e=>kk b o e ((hfp b hb).imp id fun ⟨o',xs,j,e',hd,nm⟩=>⟨⟨xs,j,Option.some.inj ((hs b o' xs j nm e' hd).symm.trans e) ▸ hd⟩,nm,by rw [e'];rfl⟩),hr,
   fun a o xs j nm e hd=>kk a o (hs a o xs j nm e hd) (.inr ⟨⟨xs,j,hd⟩,nm,by rw [e];rfl⟩)⟩
  item:=fun d r s M' P' Q E ok mb ⟨k,hk,st,hr,hs⟩ hP' hQ=>by
   obtain ⟨hd,hr'⟩:=gF hr;have hlt:=Nat.lt_of_lt_of_eq (List.getElem?_eq_some_iff.mp hd).1 hm.symm;refine wpAny_with_toks (Nat.le_refl s.toks) (wk.item _ s _ _ hlt st fun v h' tk pv st' kp le=>hP' v _ ?_)
   rw [lc ht];have hs':o6 M h1a h':=fun a o xs j nm e hd=>kp a o (fun q=>nm (List.mem_singleton.mp q ▸ hI)) (hs a o xs j nm e hd)
   exact wpAny_pure (hQ v h' tk le (ok.gd.base hW (ni st kp)) (fun a o _ na e=>kp a o (fun q=>na (List.mem_singleton.mp q)) e) ⟨k + 1,hlt,st',hr',hs'⟩ (hP _ v d h' M' pv hd hs' mb))
  done:=fun s Q E g ⟨k,hk,st,hr,hs⟩ hQ=>by
   have e:k = m:=Nat.le_antisymm hk (hm ▸ List.drop_eq_nil_iff.mp hr.symm);exact wpAny_with_toks (Nat.le_refl s.toks) (wk.done s _ _ (e ▸ st) fun h' tk kp le=>hQ h' tk le (g.base hW (ni st kp)) fun a o _ na e=>kp a o (fun q=>na (List.mem_singleton.mp q)) e)
  self:=fun r s Q E ⟨k,_,st,_⟩ hQ=>wk.self _ s Q E st hQ }
theorem eY {a:Addr} (sI:Stp W T h h1a) (n:h1a.get? a = none):h.get? a = none:=
 Option.not_isSome_iff_eq_none.mp fun e=>by have:=cZ sI e;rw [n] at this;cases this
theorem jF {a:Addr} (g:Gd W T h1a) (n:h1a.get? a = none):a ≠ W.tab:=fun q=>by
 obtain ⟨vs,e⟩:=g.tab;rw [<- q,n] at e;cases e
theorem mf (sI:Stp W T s.heap h1a):s.heap.get? h1a.objs.size = none:=eY sI az
theorem kZ (g:Gd W T h1a):h1a.objs.size ≠ W.tab:=jF g az
variable {tA:Nat}
theorem nt (hW:Wok W T) {A:Around} {s:Shared} {M:Addr->Prop} {O:List Addr} {tgt:Expr} {ds:List D} {m:Nat} {ob:Obj} {fp:List Addr} {P:Nat->Value->Prop} {St:Nat->Heap->Prop} (lA:s.toks <= tA) (sI:Stp W T s.heap h1a)
  (wk:Walks W.prog W.w A h1a.objs.size fp [h1a.objs.size] m P St) (hm:m = ds.length) (st0:St 0 (h1a.push ob)) (hfp:∀ b ∈ fp,b = h1a.objs.size \/ ∃ o xs j,h1a.get? b = some o /\ o.data = .seq xs j /\ ¬ M b)
  (hP:∀ i v d h M',P i v->ds[i]? = some d->o6 M h1a h->(∀ a,M' a->(h1a.get? a).isSome->M a)->Den h O M' v d) (hth:∀ i h,St i h->∃ o,h.get? h1a.objs.size = some o /\ ¬ bH o) (ht:b8 tgt)
  {Q:Value->Shared->Prop} (q:∀ I wr St h' tk,s.toks <= tk->Stp W T s.heap h'->(∀ a,wr a->s.heap.get? a = none /\ a ≠ W.tab /\ W.nb <= a)->St ds h'->Wk W T A I wr h' O (fun a=>M a \/ wr a) St tgt->Q I { s with heap:=h',toks:=tk }) :
  Q (.ref h1a.objs.size) { s with heap:=h1a.push ob,toks:=tA }:=by
 have kp:∀ a o,h1a.get? a = some o->(h1a.push ob).get? a = some o:=fun a o e=>Heap.get?_push_of_some _ e
 have ne:∀ {a o},¬ M a->h1a.get? a = some o->¬ (M a \/ a = h1a.objs.size):=fun nm e z=>z.elim nm fun z=>by rw [z,az] at e;cases e
 exact q (.ref h1a.objs.size) (fun a=>a = h1a.objs.size) _ _ tA lA (sI.trans (.of hW sI.gd kp)) (fun a w=>w ▸ ⟨mf sI,kZ sI.gd,sI.gd.size⟩) ⟨0,zero_le _,st0,rfl,fun a o xs j _ e _=>e⟩
  (zB hW wk hm (.inr rfl) sI.gd.size (fun b hb=>(hfp b hb).imp id fun ⟨o,xs,j,e,hd,nm⟩=>⟨o,xs,j,kp _ _ e,hd,ne nm e⟩)
   (fun i v d h M' pv hd hs mb=>hP i v d h M' pv hd (fun a o xs j nm e hd=>hs a o xs j (ne nm e) (kp _ _ e) hd) fun a m e=>(mb a m (let ⟨o,e⟩:=Option.isSome_iff_exists.mp e;by rw [kp _ _ e];rfl)).elim id fun z=>by rw [z,az] at e;cases e) hth ht)
theorem i6 (hW:Wok W T) {A:Around} {s:Shared} {M:Addr->Prop} {O:List Addr} {tgt:Expr} {ds:List D} {m:Nat} {ob:Obj} {P:Nat->Value->Prop} {St:Nat->Heap->Prop} (lA:s.toks <= tA) (sI:Stp W T s.heap h1a)
  (wk:Walks W.prog W.w A h1a.objs.size [h1a.objs.size] [h1a.objs.size] m P St) (hm:m = ds.length) (st0:St 0 (h1a.push ob)) (hP:∀ i v d,P i v->ds[i]? = some d->∀ h O M,Den h O M v d) (hth:∀ i h,St i h->∃ o,h.get? h1a.objs.size = some o /\ ¬ bH o) (ht:b8 tgt)
  {Q:Value->Shared->Prop} (q:∀ I wr St h' tk,s.toks <= tk->Stp W T s.heap h'->(∀ a,wr a->s.heap.get? a = none /\ a ≠ W.tab /\ W.nb <= a)->St ds h'->Wk W T A I wr h' O (fun a=>M a \/ wr a) St tgt->Q I { s with heap:=h',toks:=tk }) :
  Q (.ref h1a.objs.size) { s with heap:=h1a.push ob,toks:=tA }:=
 nt hW lA sI wk hm st0 (fun b hb=>.inl (List.mem_singleton.mp hb)) (fun i v d h M' pv e _ _=>hP i v d pv e h O M') hth ht q
theorem o7 (x:h.IsListIter I l k):∃ o,h.get? I = some o /\ ¬ bH o:=let ⟨o,e,_⟩:=x;⟨o,e,xg x o e⟩
theorem bw (hW:Wok W T) (he:EVP W T n env μ e (.list ds)) (ht:b8 tgt):ITR W T n env μ e tgt ds:=by
 refine .of ?_;intro A s vm O M r k F V Q E q;refine he.run A s vm O M r k F V _ _ fun v h1a tA lA sI dA=>?_
 induction dA using lE with
 | list pl nm dl=>
 rename_i ax vs;refine wpAny_pyIter_list pl.isList ?_
 obtain ⟨j,epl⟩:=pl;exact nt hW lA sI (Walks.list r.handled h1a.objs.size ax (fun q=>by rw [q,az] at epl;cases epl) vs.toArray) (List.size_toArray.trans dl.length) ⟨⟨_,Heap.get?_push_size _ rfl,rfl,rfl⟩,Heap.PlainList.isList ⟨j,Heap.get?_push_of_some _ epl⟩⟩
  (fun b hb=>(List.mem_cons.mp hb).imp id fun hb=>⟨_,_,j,List.mem_singleton.mp hb ▸ epl,rfl,List.mem_singleton.mp hb ▸ nm⟩)
  (fun i v d h M' pv hd hs mb=>let ⟨v',e,dv⟩:=dl.get i d hd;Option.some.inj (e.symm.trans (List.getElem?_toArray.symm.trans pv)) ▸ dv.kseqM hs (fun _ _ e=>e) mb) (fun i h st=>o7 st.1) ht q
theorem xy (hW:Wok W T) {l:List Nat} (he:EVP W T n env μ e (.str (S l))) (ht:b8 tgt):ITR W T n env μ e tgt (l.map fun c=>.str (S [c])):=by
 refine .of ?_;intro A s vm O M r k F V Q E q;refine he.run A s vm O M r k F V _ _ fun v h1a tA lA sI dA=>?_
 induction dA using sE with
 | str t=>
 have hP:∀ i v d,SignAt (S l) i v->(l.map fun c=>D.str (S [c]))[i]? = some d->∀ h O M,Den h O M v d:=by
  rintro i v d ⟨c,u,e1,rfl⟩ e2 h O M
  have e1':l[i]? = some c:=by simpa using e1
  rw [getElem?_map,e1'] at e2;cases e2;exact .str _ _
 have hlen:(l.map fun c=>D.str (S [c])).length = (S l).cps.size:=by simp
 have hth:∀ (cls:String) i (h:Heap),h.IsStrIter h1a.objs.size cls (S l) t i->∃ o,h.get? h1a.objs.size = some o /\ ¬ bH o:=fun cls i h st=>by obtain ⟨o,ho,_,hd⟩:=st;exact ⟨o,ho,cr hd fun q t z=>by simp at z⟩
 cases ha:(S l).cps.all (· < 128)
 ·refine wpAny_pyIter_wide ha ?_
  exact i6 hW lA sI (Walks.strWide r.handled h1a.objs.size (S l) t) hlen.symm ⟨_,Heap.get?_push_size _ rfl,rfl,rfl⟩ hP (hth _) ht q
 ·refine wpAny_pyIter_ascii ha ?_
  exact i6 hW lA sI (Walks.strAscii r.handled h1a.objs.size (S l) t) hlen.symm ⟨_,Heap.get?_push_size _ rfl,rfl,rfl⟩ hP (hth _) ht q
noncomputable def rng (a b:Int):List D:=(List.range (b - a).toNat).map fun (i:Nat)=>.int (a + i)
theorem xk (a b:Int):(rng a b).length = (b - a).toNat:=by simp [rng]
theorem mR (hW:Wok W T) {a b:Int} {t u v:Tok} {rg:Addr} (hh:A.handled = none) (lA:s.toks <= tA) (sI:Stp W T s.heap h1a) (hr:IsRange h1a rg a b 1 t u v)
  (ha:-(2 ^ 62) <= a) (ha':a < 2 ^ 62) (hb:-(2 ^ 62) <= b) (hb':b < 2 ^ 62) (ht:b8 tgt) 
  (q:∀ I wr St h' tk,s.toks <= tk->Stp W T s.heap h'->(∀ a,wr a->s.heap.get? a = none /\ a ≠ W.tab /\ W.nb <= a)->St (rng a b) h'->Wk W T A I wr h' O (fun a=>M a \/ wr a) St tgt->Q I { s with heap:=h',toks:=tk }) :
  wpAny (model W.prog W.w) A (pyIter (.ref rg)) Q E { s with heap:=h1a,toks:=tA }:=by
 refine wpAny_pyIter_range hr (small_one ha ha' hb hb') ?_
 have wk:=Walks.range (prog:=W.prog) (w:=W.w) hh h1a.objs.size a 1 (rng a b).length;refine i6 hW lA sI wk rfl ?_ ?_ (fun i h st=>⟨_,st,cr rfl fun q t z=>by simp [rawInt] at z⟩) ht q
 ·have e:Builtin.Range.rangeSize a b 1 = ((rng a b).length:Int):=by
   rw [rangeSize_one,xk];split <;> omega
  rw [e];have:IsRangeIter (h1a.push { cls:=.type "range_iterator",data:=.fields #[rawInt a,rawInt ((rng a b).length:Int),rawInt 1] }) h1a.objs.size a ((rng a b).length:Int) 1:=Heap.get?_push_size _ rfl;simpa using this
 ·rintro i v d ⟨t,rfl⟩ e h O M
  unfold rng at e;rw [getElem?_map] at e;obtain ⟨j,e1,rfl⟩:=Option.map_eq_some_iff.mp e;have:j = i:=by
   have:=List.getElem?_eq_some_iff.mp e1;obtain ⟨h1,h2⟩:=this;simp at h2
   exact h2.symm
  subst this;rw [Int.mul_one];exact .int _ _
theorem dS (hW:Wok W T) {b:Int} (hx:Glb W env "range" (.type "range")) (he:EVP W T n env μ e (.int b)) (hb:-(2 ^ 62) <= b) (hb':b < 2 ^ 62) (ht:b8 tgt) (hs:autoParam (starEach [e] env = [(false,eval e env)]) rfT) :
  ITR W T n env μ (.Call (.Name "range" np) [e] [] pos) tgt (rng 0 b):=by
 refine .of ?_;intro A s vm O M r k F V Q E q;refine Call_Name1 (bT hW k.gd F hx ?_) hs
 refine aO rfl rfl (Calls.evalArgs_plain (Calls.spliced_cons (he.run A s vm O M r k F V _ _ fun v h1a tA lA sI dA=>Calls.spliced_nil ?_)))
 induction dA using iE with
 | int t=>
 refine call_range_1 ?_
 have kp:∀ a o,h1a.get? a = some o->(h1a.push { cls:=.type "range",data:=.fields #[.int 0 tA,.int b t,.int 1 (tA + 1)] }).get? a = some o:=fun a o e=>Heap.get?_push_of_some _ e
 exact mR (s:=s) hW r.handled (Nat.le_trans lA (le_add_right tA 2)) (sI.trans (.of hW sI.gd kp)) (IsRange.new ..) (by decide) (by decide) hb hb' ht q
variable {eI eJ:Expr}
theorem mI (hW:Wok W T) {a b:Int} (hx:Glb W env "range" (.type "range")) (h1:EVP W T n env μ eI (.int a)) (h2:EVP W T n env μ eJ (.int b)) (ha:-(2 ^ 62) <= a) (ha':a < 2 ^ 62) (hb:-(2 ^ 62) <= b) (hb':b < 2 ^ 62)
  (ht:b8 tgt) (hs:autoParam (starEach [eI,eJ] env = [(false,eval eI env),(false,eval eJ env)]) rfT):ITR W T n env μ (.Call (.Name "range" np) [eI,eJ] [] pos) tgt (rng a b):=by
 refine .of ?_;intro A s vm O M r k F V Q E q;refine Call_Name2 (bT hW k.gd F hx ?_) hs
 refine aO rfl rfl (Calls.evalArgs_plain (Calls.spliced_cons (h1.run A s vm O M r k F V _ _ fun v h1a tA lA sI dA=>Calls.spliced_cons ?_)))
 have kI:=k.step lA sI;refine h2.run A _ vm O M r kI (F.step k.gd sI.kp) (V.st k.gd sI.kp) _ _ fun v hJ tJ lB sB dB=>Calls.spliced_nil ?_
 induction dA using iE with
 | int t=>
 induction dB using iE with
 | int u=>
 refine call_range_2 ?_
 have kp:∀ x o,hJ.get? x = some o->(hJ.push { cls:=.type "range",data:=.fields #[.int a t,.int b u,.int 1 tJ] }).get? x = some o:=fun a o e=>Heap.get?_push_of_some _ e
 exact mR (s:=s) hW r.handled (Nat.le_trans lA (Nat.le_trans lB (le_succ tJ))) (sI.trans (sB.trans (.of hW sB.gd kp))) (IsRange.new ..) ha ha' hb hb' ht q
noncomputable def iT (env:Env):List (Str × NameKind)->List (Str × Addr)->List (Str × Addr)
 | [],cs=>cs
 | (n,k) :: r,cs=>iT env r (if k == .free then (n,(env.cells.lookup n).getD 0) :: cs else cs)
noncomputable def bL (scope:Scope) (env:Env):List (Str × Addr):=iT env scope.names []
theorem jM {env:Env}:∀ (names:List (Str × NameKind)) (cs:List (Str × Addr)),(∀ p ∈ names,p.2 = .free->(env.cells.lookup p.1).isSome = true)->
  (forIn names cs fun (p:Str × NameKind) cs=>if p.2 == .free then (do let a <- cellOf env p.1;pure (ForInStep.yield ((p.1,a) :: cs))) else pure (.yield cs):Sem (List (Str × Addr))) = pure (iT env names cs)
 | [],cs,_=>by rw [List.forIn_nil];rfl
 | (n,k) :: r,cs,h=>by
  rw [List.forIn_cons];unfold iT;by_cases hk:(k == NameKind.free) = true
  ·have hs:=h (n,k) (.head _) (beq_iff_eq.mp hk);obtain ⟨a,ha⟩:=Option.isSome_iff_exists.mp hs;have ha':env.cells.lookup n = some a:=ha;simp only [hk,if_true,cellOf,ha',Option.getD_some];exact jM r _ fun p hp=>h p (.tail _ hp)
  ·simp only [hk];exact jM r _ fun p hp=>h p (.tail _ hp)
variable {scope:Scope}
theorem gz (h:∀ p ∈ scope.names,p.2 = .free->(env.cells.lookup p.1).isSome = true):closureFor scope env = pure (bL scope env):=by
 have:=jM scope.names [] h;unfold closureFor bL;exact (congrArg (fun t:Sem (List (Str × Addr))=>t >>= fun cs=>pure cs) this).trans rfl
theorem eP {env:Env} {x:Str} {c:Addr}:∀ (names:List (Str × NameKind)) (cs:List (Str × Addr)),(∀ p ∈ names,p.2 = .free->(env.cells.lookup p.1).isSome = true)->
  (iT env names cs).lookup x = some c->((x,NameKind.free) ∈ names /\ env.cells.lookup x = some c) \/ cs.lookup x = some c
 | [],_,_,e=>.inr e
 | (n,k) :: r,cs,h,e=>by
  unfold iT at e;rcases eP r _ (fun p hp=>h p (.tail _ hp)) e with q | q
  ·exact .inl ⟨.tail _ q.1,q.2⟩
  ·split at q
   ·rename_i hk;by_cases hx:x = n
    ·subst hx;simp only [List.lookup,beq_self_eq_true] at q;obtain ⟨a,ha⟩:=Option.isSome_iff_exists.mp (h (x,k) (.head _) (beq_iff_eq.mp hk));have ha':env.cells.lookup x = some a:=ha;rw [ha'] at q;cases q;exact .inl ⟨by have:=beq_iff_eq.mp hk;subst this;exact .head _,ha'⟩
    ·have:(x == n) = false:=by simp [hx]
     simp only [List.lookup,this] at q;exact .inr q
   ·exact .inr q
theorem fe {x:Str}:∀ (names:List (Str × NameKind)) (k:Nat) (acc:List (Str × Addr)),(x,NameKind.cell) ∉ names->(cellsFrom k names acc).lookup x = acc.lookup x
 | [],_,_,_=>rfl
 | (n,kd) :: r,k,acc,h=>by
  unfold cellsFrom;split
  ·rename_i hk;rw [fe r _ _ fun q=>h (.tail _ q)]
   have:x ≠ n:=fun q=>by
    have:=beq_iff_eq.mp hk;subst q this;exact h (.head _)
   have:(x == n) = false:=by simp [this]
   simp [List.lookup,this]
  ·exact fe r _ _ fun q=>h (.tail _ q)
theorem gv {x:Str}:∀ (names:List (Str × NameKind)) (k:Nat) (acc acc':List (Str × Addr)),(x,NameKind.cell) ∈ names->(cellsFrom k names acc).lookup x = (cellsFrom k names acc').lookup x
 | (n,kd) :: r,k,acc,acc',h=>by
  unfold cellsFrom;by_cases hr:(x,NameKind.cell) ∈ r
  ·split
   ·exact gv r _ _ _ hr
   ·exact gv r _ _ _ hr
  ·rcases List.mem_cons.mp h with e | e
   ·cases e;simp only [beq_self_eq_true,if_true];rw [fe r _ _ hr,fe r _ _ hr];simp [List.lookup]
   ·exact absurd e hr
noncomputable abbrev ap (scope:Scope) (env:Env) (L:Addr):Env:=
 { scope:=relabel scope env,locals:=L,globals:=env.globals,cells:=cellsFrom (L + 1) scope.names (bL scope env),qual:=env.qual,func:=none,code:=env.code,frame:=env.frame,builtins:=env.builtins }
noncomputable def seen {α:Type} (scope:Scope) (m:Str->Option α):Str->Option α:=fun x=>if (x,NameKind.free) ∈ scope.names then m x else none
theorem jy {x:Str} (hsc:br scope = true) (h:(relabel scope env).names.lookup x = some .local):(x,NameKind.local) ∈ scope.names:=by
 have:=mem_of_lookup h;obtain ⟨⟨n,k⟩,hm,e⟩:=List.mem_map.mp this;dsimp only at e
 split at e
 ·cases e
 ·cases e;exact hm
theorem yd (hW:Wok W T) {M:Model} {Q:Env->Shared->Prop} (g:Gd W T s.heap) (F:Fm W s.heap env vm) (hk:scope.kind = .function) (hsc:br scope = true)
  (hfree:∀ p ∈ scope.names,p.2 = .free->(env.cells.lookup p.1).isSome = true)
  (q:∀ h',(∀ a o,s.heap.get? a = some o->h'.get? a = some o)->Fm W h' (ap scope env s.heap.objs.size) (seen scope vm)->
   Q (newEnv scope s.heap.objs.size env.globals (cellsFrom (s.heap.objs.size + 1) scope.names (bL scope env)) env.qual none .none (some env) builtinsNs) { s with heap:=h' }) :
  wpAny M A (newFunctionEnv scope env.globals (bL scope env) [] env.qual none .none (some env)) Q E s:=by
 unfold newFunctionEnv;refine wpAny_bind (wpAny_alloc ?_)
 refine wpAny_bind (wpAny_layCells _ (fun name kind cells=>by cases hkc:kind == NameKind.cell <;> simp [hkc]) _ _ _ _ ?_)
 have hsz:({ s with heap:=s.heap.push { cls:=.type (if (some env).isSome = true then "dict" else "frame"),data:=.dict #[] } }:Shared).heap.objs.size = s.heap.objs.size + 1:=Heap.size_push ..
 rw [hsz];show wpAny M A (pure (newEnv scope s.heap.objs.size env.globals (cellsFrom (s.heap.objs.size + 1) scope.names (bL scope env)) env.qual none .none (some env) builtinsNs)) Q E _;refine wpAny_pure (q _ (fun a o e=>pushCells_keeps _ _ a o (Heap.get?_push_of_some _ e)) ?_)
 have ok:=cellsFrom_ok scope.names (s.heap.push { cls:=.type (if (some env).isSome = true then "dict" else "frame"),data:=.dict #[] }) (s.heap.objs.size + 1) [] ⟨fun _ _ hm=>(nomatch hm),List.Pairwise.nil⟩ (by rw [Heap.size_push];exact Nat.le_refl _)
 rw [Heap.size_push] at ok;have kp:∀ a o,s.heap.get? a = some o->(pushCells (s.heap.push { cls:=.type (if (some env).isSome = true then "dict" else "frame"),data:=.dict #[] }) scope.names).get? a = some o:=fun a o e=>pushCells_keeps _ _ a o (Heap.get?_push_of_some _ e)
 -- each cell is new,or of the frame around
 have two:∀ x c,(cellsFrom (s.heap.objs.size + 1) scope.names (bL scope env)).lookup x = some c->
   ((x,NameKind.cell) ∈ scope.names /\ (cellsFrom (s.heap.objs.size + 1) scope.names []).lookup x = some c) \/ ((x,NameKind.free) ∈ scope.names /\ env.cells.lookup x = some c):=fun x c e=>by
  by_cases hx:(x,NameKind.cell) ∈ scope.names
  ·exact .inl ⟨hx,(gv scope.names _ [] _ hx).trans e⟩
  ·rw [fe _ _ _ hx] at e;rcases eP _ _ hfree e with q | q
   ·exact .inr q
   ·cases q
 have uniq:∀ x k k',(x,k) ∈ scope.names->(x,k') ∈ scope.names->k = k':=fun x k k' h1 h2=>by
  have e1:=of_decide_eq_true (List.all_eq_true.mp hsc _ h1);have e2:=of_decide_eq_true (List.all_eq_true.mp hsc _ h2);exact Option.some.inj (e1.symm.trans e2)
 refine ⟨hk,F.glob,F.blt,⟨fun _=>none,(Heap.Ns.new s.heap _).keeps (pushCells_keeps _ _),fun x hx=>?_⟩,fun x c e=>?_,fun x y c ex ey=>?_,fun a fa=>?_,fun x c hx e=>?_⟩
 ·have hx':=jy hsc hx;unfold seen;rw [if_neg fun q=>by cases uniq x _ _ hx' q]
 ·rcases two x c e with ⟨h1,h2⟩ | ⟨h1,h2⟩
  ·have:seen scope vm x = none:=by unfold seen;rw [if_neg fun q=>by cases uniq x _ _ h1 q]
   rw [this];exact (ok.empty x c (mem_of_lookup h2)).1
  ·have:seen scope vm x = vm x:=by unfold seen;rw [if_pos h1]
   rw [this];exact (F.cell x c h2).keeps kp
 ·have lt:∀ z,env.cells.lookup z = some c->c < s.heap.objs.size:=fun z h=>by
   obtain ⟨ob,e,_⟩:=F.cell z c h;exact Heap.lt_size e
  have ge:∀ z,(cellsFrom (s.heap.objs.size + 1) scope.names []).lookup z = some c->s.heap.objs.size + 1 <= c:=fun z h=>(ok.empty z c (mem_of_lookup h)).2
  rcases two x c ex with ⟨_,h1⟩ | ⟨_,h1⟩ <;> rcases two y c ey with ⟨_,h2⟩ | ⟨_,h2⟩
  ·exact name_of_addr ok.apart (mem_of_lookup h1) (mem_of_lookup h2)
  ·have:=lt y h2;have:=ge x h1;exact absurd (Nat.lt_of_lt_of_le (lt_succ_self _) (Nat.le_trans (ge x h1) (le_of_lt (lt y h2)))) (Nat.lt_irrefl _)
  ·exact absurd (Nat.lt_of_lt_of_le (lt_succ_self _) (Nat.le_trans (ge y h2) (le_of_lt (lt x h1)))) (Nat.lt_irrefl _)
  ·exact F.apart x y c h1 h2
 ·rcases fa with rfl | ⟨x,e⟩
  ·exact g.size
  ·rcases two x a e with ⟨_,h2⟩ | ⟨_,h2⟩
   ·exact Nat.le_trans g.size (Nat.le_trans (le_succ _) (ok.empty x a (mem_of_lookup h2)).2)
   ·exact F.above a (.inr ⟨x,h2⟩)
 ·have hx':=jy hsc hx;rcases two x c e with ⟨h1,_⟩ | ⟨h1,_⟩
  ·cases uniq x _ _ hx' h1
  ·cases uniq x _ _ hx' h1
variable {L:Addr}
theorem w8 {x:Str} {a:Addr} (hsc:br scope = true) (hx:(x,NameKind.local) ∈ scope.names \/ (x,NameKind.cell) ∈ scope.names) (f:Fs (ap scope env L) x a):L <= a:=by
 rcases f with ⟨_,h⟩ | ⟨hk,h⟩
 ·exact le_of_eq h.symm
 ·have h':(cellsFrom (L + 1) scope.names (bL scope env)).lookup x = some a:=h;have hx':(x,NameKind.cell) ∈ scope.names:=by
   rcases hx with hx | hx
   ·exfalso
    have e1:=of_decide_eq_true (List.all_eq_true.mp hsc _ hx);have:=lookup_relabel_local (env:=env) e1;have hk':(relabel scope env).names.lookup x = some .cell:=hk;have q:some NameKind.local = some NameKind.cell:=this.symm.trans hk';cases q
   ·exact hx
  rw [gv scope.names _ _ [] hx'] at h';have ok:=cellsFrom_ok scope.names (Heap.mk (Array.replicate (L + 1) default) {}) (L + 1) [] ⟨fun _ _ hm=>(nomatch hm),List.Pairwise.nil⟩ (by simp)
  have e:(Heap.mk (Array.replicate (L + 1) default) {}).objs.size = L + 1:=by simp
  rw [e] at ok;exact Nat.le_trans (le_succ L) (ok.empty x a (mem_of_lookup h')).2
noncomputable def d7 (l:List Str):List Str:=l.foldl (fun acc k=>if k ∈ acc then acc else acc ++ [k]) []
noncomputable def cM (l:List Str):Nat:=(d7 l).length
theorem qS (l:List Str) (x:Str):d7 (l ++ [x]) = if x ∈ d7 l then d7 l else d7 l ++ [x]:=by
 unfold d7;rw [List.foldl_append];rfl
theorem mG (l acc:List Str) (x:Str):x ∈ l.foldl (fun acc k=>if k ∈ acc then acc else acc ++ [k]) acc ↔ x ∈ acc \/ x ∈ l:=by
 induction l generalizing acc with
 | nil=>exact ⟨.inl,fun z=>z.resolve_right fun h=>nomatch h⟩
 | cons k l ih=>
  refine (ih _).trans ?_
  rw [List.mem_cons,<- or_assoc];refine or_congr_left ?_
  show x ∈ (if k ∈ acc then acc else acc ++ [k]) ↔ _
  by_cases h:k ∈ acc
  ·rw [if_pos h];exact ⟨.inl,fun z=>z.elim id fun z=>z ▸ h⟩
  ·rw [if_neg h,List.mem_append,List.mem_singleton]
theorem mJ (l:List Str) (x:Str):x ∈ d7 l ↔ x ∈ l:=by
 unfold d7;rw [mG];simp
theorem r9 (l:List Str) (x:Str):cM (l ++ [x]) = if x ∈ l then cM l else cM l + 1:=by
 unfold cM;rw [qS];by_cases h:x ∈ l
 ·rw [if_pos h,if_pos ((mJ l x).mpr h)]
 ·rw [if_neg h,if_neg (fun z=>h ((mJ l x).mp z))];simp
theorem t7 (l acc:List Str):(l.foldl (fun acc k=>if k ∈ acc then acc else acc ++ [k]) acc).length <= acc.length + l.length:=by
 induction l generalizing acc with
 | nil=>exact Nat.le_refl _
 | cons k l ih=>
  refine Nat.le_trans (ih _) ?_
  rw [length_cons,<- Nat.succ_add_eq_add_succ];refine Nat.add_le_add_right ?_ _
  show (if k ∈ acc then acc else acc ++ [k]).length <= _
  split
  ·exact le_succ _
  ·exact le_of_eq length_append
theorem qL (l:List Str):cM l <= l.length:=Nat.le_trans (t7 l []) (le_of_eq (Nat.zero_add _))
noncomputable def zg (W:Wd) (h:Heap) (a:Addr) (out:List Str):Prop:=∃ o,h.get? a = some o /\ o.SetObjOf (PySem.strKind W.prog W.w) (fun k=>decide (k ∈ out)) (cM out)
theorem yR {o:Obj} {S:Str->Bool} {m:Nat} (so:o.SetObjOf (PySem.strKind W.prog W.w) S m):¬ bH o:=fun ⟨_,_,_,q,_⟩=>by
 obtain ⟨_,es,ep,t,hd,_⟩:=so;rw [hd] at q;cases q
variable {ws:List Value} {es:List D}
theorem am.append (x:am h O M vs ds) (y:am h O M ws es):am h O M (vs ++ ws) (ds ++ es):=by
 induction ds generalizing vs with
 | nil=>induction x using qE;exact y
 | cons d ds ih=>induction x using kE with
  | cons x z=>exact .cons x (ih z)
noncomputable abbrev rI (ifs:List Expr) (env:Env):Sem Bool:=forIn ifs true fun c r=>if r = true then do let ok <- isTrue c env (eval c env);pure (ForInStep.yield ok) else pure (ForInStep.yield r)
structure gV (W:Wd) (T:Heap->Prop) (n:Nat) (env:Env) (μ:Str->Option D) (ifs:List Expr) (b:Bool):Prop where
 of ::
 run:∀ (A:Around) (s:Shared) (vm:Str->Option Value) (O:List Addr) (M:Addr->Prop),aL n A->Ok W T M s->Fm W s.heap env vm->bz s.heap O M vm μ->
  ∀ (Q:Bool->Shared->Prop) (E:Value->Shared->Prop),(∀ h' tk,s.toks <= tk->Stp W T s.heap h'->Q b { s with heap:=h',toks:=tk })->wpAny (model W.prog W.w) A (rI ifs env) Q E s
theorem d9:gV W T n env μ [] true:=.of fun _ s _ _ _ _ k _ _ _ _ q=>wpAny_tests_nil (q s.heap s.toks (Nat.le_refl _) (.refl k.gd))
theorem bK {c:Expr} (h:TST W T n env μ c b):gV W T n env μ [c] b:=.of fun A s vm O M r k F V Q E q=>wpAny_tests_one (h.run A s vm O M r k F V Q E q)
inductive GK where
 | lst
 | set
noncomputable def GK.lim:GK->Nat
 | .lst=>10000
 | .set=>1000
noncomputable def Acc (W:Wd) (g:GK) (h:Heap) (O:List Addr) (M:Addr->Prop) (Dd:Addr) (out:List D):Prop:=match g with
 | .lst=>∃ ys,h.PlainList Dd ys.toArray /\ am h O M ys out
 | .set=>∃ ks,out = ks.map D.str /\ zg W h Dd ks
theorem Acc.ob {g:GK} {h:Heap} {O:List Addr} {M:Addr->Prop} {Dd:Addr} {out:List D} (x:Acc W g h O M Dd out):∃ ob,h.get? Dd = some ob /\ ¬ bH ob /\ (∀ es k,ob.data ≠ .dict es k) /\ ∀ v,ob.data ≠ .cell v:=by
 cases g with
 | lst=>
  obtain ⟨_,⟨j,e⟩,_⟩:=x;exact ⟨_,e,jZ rfl,(fun _ _ q=>nomatch q),fun _ q=>nomatch q⟩
 | set=>
  obtain ⟨_,_,o,e,so⟩:=x;refine ⟨o,e,yR so,fun _ _ q=>?_,fun _ q=>?_⟩
  all_goals
   obtain ⟨_,es,ep,t,hd,_⟩:=so;exact nomatch hd.symm.trans q
variable {g:GK} {Dd:Addr}
theorem Acc.mv {out:List D} (x:Acc W g h O M Dd out) (k:∀ ob,h.get? Dd = some ob->h'.get? Dd = some ob) (ks:aN M h h') (hm:∀ a,M' a->(h.get? a).isSome->M a):Acc W g h' O M' Dd out:=by
 cases g with
 | lst=>
  obtain ⟨ys,⟨j,e⟩,dl⟩:=x;exact ⟨ys,⟨j,k _ e⟩,dl.kseqM ks (fun _ _ e=>e) hm⟩
 | set=>
  obtain ⟨ts,e0,o,e,so⟩:=x;exact ⟨ts,e0,o,k o e,so⟩
theorem Acc.nofx {out:List D} (x:Acc W g h O M Dd out) (F:Fm W h env vm) (f:Fx env Dd):False:=by
 obtain ⟨ob,e,_,nd,nl⟩:=x.ob;rcases f with rfl | ⟨y,c⟩
 ·obtain ⟨m,⟨o',es',ep',ho,hd',_⟩,_⟩:=F.loc;exact nd _ _ (Option.some.inj (ho.symm.trans e) ▸ hd')
 ·obtain ⟨o',ho,hd'⟩:=F.cell y Dd c;exact nl _ (Option.some.inj (ho.symm.trans e) ▸ hd')
structure Cs (g:GK) (W:Wd) (T:Heap->Prop) (env:Env) (μ:Str->Option D) (O:List Addr) (M:Addr->Prop) (Dd:Addr) (out:List D) (h:Heap) (vm:Str->Option Value):Prop where
 gd:Gd W T h
 live:∀ a,M a->a ≠ W.tab /\ (h.get? a).isSome
 fm:Fm W h env vm
 vars:bz h O M vm μ
 acc:Acc W g h O M Dd out
 inM:M Dd
 above:W.nb <= Dd
noncomputable def CX (Own:Addr->Prop) (Dd a:Addr):Prop:=Own a \/ a = Dd
structure ACT (g:GK) (W:Wd) (T:Heap->Prop) (n:Nat) (Own:Addr->Prop) (env:Env) (μ:Str->Option D) (act:Value->Sem Unit) (out:List D):Prop where
 of ::
 run:∀ (A:Around) (s:Shared) (vm:Str->Option Value) (O:List Addr) (M:Addr->Prop) (Dd:Addr) (out0:List D),aL n A->0 <= s.toks->Cs g W T env μ O M Dd out0 s.heap vm->out0.length + out.length <= g.lim->
  ∀ (Q:Unit->Shared->Prop) (E:Value->Shared->Prop),(∀ vm' h' tk,s.toks <= tk->Cs g W T env μ O M Dd (out0 ++ out) h' vm'->KpX W (CX Own Dd) s.heap h'->Q () { s with heap:=h',toks:=tk })->wpAny (model W.prog W.w) A (act (.ref Dd)) Q E s
inductive CLL (g:GK) (W:Wd) (T:Heap->Prop) (n:Nat) (Own:Addr->Prop) (env:Env) (tgt:Expr) (ifs:List Expr) (act:Value->Sem Unit):List D->(Str->Option D)->List D->Prop where
 | nil {μ:Str->Option D}:CLL g W T n Own env tgt ifs act [] μ []
 | cons {b:Bool} {d:D} {ds:List D} {μ μ1:Str->Option D} {oA oB:List D}:ASG W T n env tgt d μ μ1->gV W T n env μ1 ifs b->(b = true->ACT g W T n Own env μ1 act oA)->(b = false->oA = [])->bS μ μ1->CLL g W T n Own env tgt ifs act ds μ oB->CLL g W T n Own env tgt ifs act (d :: ds) μ (oA ++ oB)
variable {Own:Addr->Prop} {ifs:List Expr} {act:Value->Sem Unit} {μ1:Str->Option D} {oA oB:List D}
theorem CLL.yes (a:ASG W T n env tgt d μ μ1) (b:gV W T n env μ1 ifs true) (c:ACT g W T n Own env μ1 act oA) (s:bS μ μ1) (h:CLL g W T n Own env tgt ifs act ds μ oB):CLL g W T n Own env tgt ifs act (d :: ds) μ (oA ++ oB):=.cons a b (fun _=>c) (fun z=>nomatch z) s h
theorem CLL.no (a:ASG W T n env tgt d μ μ1) (b:gV W T n env μ1 ifs false) (s:bS μ μ1) (h:CLL g W T n Own env tgt ifs act ds μ oB):CLL g W T n Own env tgt ifs act (d :: ds) μ oB:=.cons (oA:=[]) a b (fun z=>nomatch z) (fun _=>rfl) s h
variable {out:List D}
theorem Cs.ok (C:Cs g W T env μ O M Dd out s.heap vm) (t:0 <= s.toks):Ok W T M s:=⟨C.gd,C.live,t⟩
theorem Cs.sub (C:Cs g W T env μ O M Dd out h vm) (hs:bS μ' μ):Cs g W T env μ' O M Dd out h vm:={ C with vars:=fun x d e=>C.vars x d (hs x d e) }
theorem Cs.tr (C:Cs g W T env μ O M Dd out h vm) (gd:Gd W T h') (kp:KpX W X h h') (xf:∀ a,X a->¬ Fx env a) (xd:¬ X Dd) (hm:∀ a,M' a->M a) (al:∀ a,M' a->(h'.get? a).isSome) (hd:M' Dd) (ks:aN M h h'):Cs g W T env μ O M' Dd out h' vm:=
 ⟨gd,fun a m=>⟨(C.live a (hm a m)).1,al a m⟩,C.fm.kept C.gd fun a o f ht e=>kp a o ht (fun x=>xf a x f) e,fun y d e=>let ⟨v,a,b⟩:=C.vars y d e;⟨v,a,b.kseqM ks (fun _ _ e=>e) fun b m _=>hm b m⟩,
  C.acc.mv (fun ob e=>kp Dd ob (C.live Dd C.inM).1 xd e) ks fun b m _=>hm b m,hd,C.above⟩
theorem Cs.step (C:Cs g W T env μ O M Dd out h vm) (x:Stp W T h h'):Cs g W T env μ O M Dd out h' vm:=
 C.tr (X:=fun _=>False) x.gd x.kp.x (fun _ z=>z.elim) id (fun _ m=>m) (fun a m=>cZ x (C.live a m).2) C.inM (x.kp.seq C.gd).m
theorem Cs.moved (C:Cs g W T env μ O M Dd out h vm) (gd:Gd W T h') (kp:KpX W wr h h') (hw:∀ a,wr a->M a) (nw:∀ a,wr a->¬ Fx env a /\ a ≠ Dd) (al:∀ a,wr a->(h'.get? a).isSome):Cs g W T env μ O M Dd out h' vm:=
 C.tr gd kp (fun a w=>(nw a w).1) (fun w=>(nw _ w).2 rfl) (fun _ m=>m) (fun a m=>dp gd kp a (al a) (C.live a m).2) C.inM fun b o _ _ nb e hd=>kp b o (C.gd.ne_tab e (nf hd rfl)) (fun q=>nb (hw b q)) e
theorem Cs.asg (C:Cs g W T env μ O M Dd out h vm) (gd:Gd W T h') (kp:KpX W (Fx env) h h') (F':Fm W h' env vm') (V':bz h' O M vm' μ'):Cs g W T env μ' O M Dd out h' vm':=
 ⟨gd,fun a m=>⟨(C.live a m).1,dp gd kp a (fun f=>let ⟨_,e,_⟩:=F'.at_fx f;by rw [e];rfl) (C.live a m).2⟩,F',V',C.acc.mv (fun ob e=>kp Dd ob (C.live Dd C.inM).1 (C.acc.nofx C.fm) e) (mY C.gd C.fm kp) fun _ m _=>m,C.inM,C.above⟩
theorem Cs.grown (hW:Wok W T) {out':List D} (C:Cs g W T env μ O M Dd out h vm) (sb:Heap.SameBut Dd h h') (al:(h'.get? Dd).isSome) (acc:aN M h h'->Acc W g h' O M Dd out'):Cs g W T env μ O M Dd out' h' vm:=by
 have ks:aN M h h':=fun a ob xs k nm e _=>(sb.2 a fun q=>nm (q ▸ C.inM)).trans e
 obtain ⟨ob,eo,nc,_⟩:=C.acc.ob;exact ⟨C.gd.same hW C.above (fun o e=>Option.some.inj (eo.symm.trans e) ▸ nc) sb,fun a m=>⟨(C.live a m).1,jO sb al a (C.live a m).2⟩,C.fm.kept C.gd fun a o f _ e=>(sb.2 a fun q=>C.acc.nofx C.fm (q ▸ f)).trans e,C.vars.kq ks,acc ks,C.inM,C.above⟩
variable {elt:Expr}
theorem jf (hW:Wok W T) (he:EVP W T n env μ elt d):ACT .lst W T n Own env μ (fun acc=>do let _ <- call (.builtin "list.append") [acc,<- eval elt env]) [d]:=by
 refine .of ?_;intro A s vm O M Dd out0 r t C hl Q E q;refine wpAny_bind (he.run A s vm O M r (C.ok t) C.fm C.vars _ _ fun v h1a tA lA sI dA=>?_)
 have C1:=C.step sI;obtain ⟨ys,pl,dl⟩:=C1.acc;refine wpAny_bind (wpAny_list_append_plain pl (fun hJ pl2 sb=>wpAny_pure ?_) (by
  have hl:out0.length + 1 <= 10000:=hl;rw [sizeLine_eq,List.size_toArray,dl.length];omega))
 exact q vm hJ tA lA (C1.grown hW sb (let ⟨_,e⟩:=pl2;by rw [e];rfl) fun ks=>⟨ys ++ [v],(List.push_toArray ys v ▸ pl2:hJ.PlainList Dd (ys ++ [v]).toArray),(dl.kq ks).append (.cons (dA.kq ks) .nil)⟩) fun a ob ht nx e=>(sb.2 a fun q=>nx (.inr q)).trans (sI.kp a ob ht e)
noncomputable def cX (e:Expr) (depth:Nat) (p:Pos) (tgt:Expr) (ifs:List Expr) (act:Value->Sem Unit) (it acc:Value) (env:Env):Sem Fin:=do
 standAt p
 match <- pyNext it with
 | none=>pure (.done .next)
 | some v=>
  letOwnedTupleGo tgt it v
  assign tgt env v
  let ok <- rI ifs env
  if ok then act acc
  again (.compLoop e depth it acc env)
inductive gW:Expr->Prop where
 | lst (e:Expr) (gs:List Comprehension) (sc:Scope) (p:Pos):gW (.ListComp e gs sc p)
 | set (e:Expr) (gs:List Comprehension) (sc:Scope) (p:Pos):gW (.SetComp e gs sc p)
variable {ce:Expr} {depth:Nat}
theorem oo {it acc:Value} (hc:gW ce)
  (h:wpAny (model prog w) A (compTurn ce depth it acc env) (fun fin s'=>match fin with
   | .done f=>R (.ok f) s'
   | .again c'=>c'.quiet = true /\ codeAny (model prog w) A c' R s') (notedBy (model prog w) A env fun e s'=>R (.error e) s') s):codeAny (model prog w) A (.compLoop ce depth it acc env) R s:=by
 cases hc <;> exact codeAny_of_tree (wpAny_noted h)
theorem nJ (hW:Wok W T) {out:List D} (hc:gW ce)
  (hf:∀ it acc,compTurn ce depth it acc env = cX ce depth p tgt ifs act it acc env) (hown:∀ a,Ft env tgt a->Own a) (hofx:∀ a,Own a->Fx env a) (hl:CLL g W T n Own env tgt ifs act ds μ out)
  {out0:List D} {I:Value} {St:List D->Heap->Prop} (r:aL n A) (t:0 <= s.toks)
  (C:Cs g W T env μ O (fun a=>M0 a \/ wr a) Dd out0 s.heap vm) (hd:M0 Dd) (hdis:∀ a,wr a->¬ M0 a) (hlen:out0.length + out.length <= g.lim)
  (wk:Wk W T A I wr h1a O (fun a=>M0 a \/ wr a) St tgt) (nw:∀ a,wr a->¬ Fx env a /\ a ≠ Dd) (st:St ds s.heap)
  (hR:∀ vm' h' tk,s.toks <= tk->Cs g W T env μ O M0 Dd (out0 ++ out) h' vm'->KpX W (fun a=>CX Own Dd a \/ wr a) s.heap h'->R (.ok .next) { s with heap:=h',toks:=tk }) :
  codeAny (model W.prog W.w) A (.compLoop ce depth I (.ref Dd) env) R s:=by
 -- the iterator keeps its state
 have keepSt:∀ {rs:List D} {h h':Heap} {oA:List D} {vm1:Str->Option Value} {μ1:Str->Option D},St rs h->Cs g W T env μ1 O (fun a=>M0 a \/ wr a) Dd oA h vm1->KpX W (fun a=>Fx env a \/ a = Dd) h h'->St rs h':=fun {rs h h' oA vm1 μ1} sth Ch kp=>
  wk.frame rs h h' sth fun a ob e c=>c.elim (fun w=>kp a ob (Ch.live a (.inr w)).1 (fun z=>z.elim (nw a w).1 (nw a w).2) e) fun ⟨⟨xs,j,hd'⟩,nm,hs⟩=>kp a ob (Ch.gd.ne_tab e (nf hd' rfl)) (fun z=>z.elim (fun f=>by
   obtain ⟨ob',e',q⟩:=Ch.fm.at_fx f;exact q xs j (Option.some.inj (e.symm.trans e') ▸ hd')) fun f=>nm (.inl (f ▸ hd))) e
 induction hl generalizing s vm out0 with
 | nil=>
  refine oo hc ?_
  rw [hf];unfold cX;refine wpAny_bind (wpAny_standAt (wpAny_bind (wk.done _ _ _ C.gd st fun hJ tJ lB gB kp2=>wpAny_pure ?_)))
  refine hR vm hJ tJ lB ?_ fun a ob ht nx e=>kp2 a ob ht (fun q=>nx (.inr q)) e
  rw [append_nil];exact C.tr gB kp2 (fun a w=>(nw a w).1) (fun w=>(nw _ w).2 rfl) (fun _ m=>.inl m) (fun a m=>dp gB kp2 a (fun w=>absurd m (hdis a w)) (C.live a (.inl m)).2) hd fun b o _ _ nb e hd=>kp2 b o (C.gd.ne_tab e (nf hd rfl)) (fun q=>nb (.inr q)) e
 | cons ha htst hact hno hsub hr ih=>
  refine oo hc ?_
  rw [hf];unfold cX;refine wpAny_bind (wpAny_standAt (wpAny_bind (wk.item _ _ _ _ _ (fun v sB=>_) _ (C.ok t) (fun a m _=>m) st (fun v sI h=>wpAny_bind h) fun v hJ tJ lB gB kp2 stB dv=>?_)))
  have C2:=C.moved gB kp2 (fun a w=>.inr w) nw (fun a w=>wk.there _ hJ a stB w)
  refine wpAny_bind (ha.run A _ vm O _ v r (C2.ok (Nat.le_trans t lB)) C2.fm C2.vars dv _ _ fun vm3 h3a tC l3 gC kp3 F3 V3=>?_)
  have kp3':KpX W (Fx env) hJ h3a:=fun a o ht nf e=>kp3 a o ht (fun q=>nf q.fx) e
  have C3:=C2.asg gC kp3' F3 V3;have st3:=keepSt stB C2 (fun a o ht nf e=>kp3' a o ht (fun q=>nf (.inl q)) e)
  have l23:=Nat.le_trans lB l3;refine wpAny_bind (htst.run A _ vm3 O _ r (C3.ok (Nat.le_trans t l23)) F3 V3 _ _ fun h4a tD lD sD=>?_)
  have C4:=C3.step sD;have st4:=keepSt st3 C3 (fun a o ht _ e=>sD.kp a o ht e)
  have l24:=Nat.le_trans l23 lD;have kx:KpX W (fun a=>CX Own Dd a \/ wr a) s.heap h4a:=fun a o ht nx e=>sD.kp a o ht (kp3 a o ht (fun q=>nx (.inl (.inl (hown a q)))) (kp2 a o ht (fun q=>nx (.inr q)) e))
  rename_i b _ _ _ _ oa ob';rw [length_append,<- Nat.add_assoc] at hlen
  cases b with
  | true=>
   show wpAny _ A (act (.ref Dd) >>= fun _=>again _) _ _ _
   refine wpAny_bind ((hact rfl).run A _ vm3 O _ Dd out0 r (Nat.le_trans t l24) C4 (Nat.le_trans (le_add_right _ _) hlen) _ _ fun vm5 h5a t5 l5 C5 kp5=>wpAny_pure ⟨rfl,?_⟩)
   have l25:=Nat.le_trans l24 l5;refine ih (s:={ s with heap:=h5a,toks:=t5 }) (Nat.le_trans t l25) (C5.sub hsub) (by rw [length_append];exact hlen) (keepSt st4 C4 fun a o ht nf e=>kp5 a o ht (fun q=>nf (q.imp (hofx a) id)) e) fun vm' h' tk l C' kp=>hR vm' h' tk (Nat.le_trans l25 l) (by rw [<- append_assoc];exact C') fun a o ht nx e=>kp a o ht nx (kp5 a o ht (fun q=>nx (.inl q)) (kx a o ht nx e))
  | false=>
   have e0:=hno rfl;subst e0;exact wpAny_pure ⟨rfl,ih (s:={ s with heap:=h4a,toks:=tD }) (Nat.le_trans t l24) (C4.sub hsub) hlen st4 fun vm' h' tk l C' kp=>hR vm' h' tk (Nat.le_trans l24 l) C' fun a o ht nx e=>kp a o ht nx (kx a o ht nx e)⟩
theorem jN {gens:List Comprehension} {g:Comprehension} {it acc:Value} (hce:gW ce) (hc:clausesOf ce = gens) (hg:gens[depth]? = some g) (ha:g.is_async = 0)
  (h0:codeAny (model prog w) A (.compLoop ce depth it acc env) R s)
  (h:wpAny (model prog w) A (pyIter it) (fun it' s'=>codeAny (model prog w) A (.compLoop ce depth it' acc env) R s') (notedBy (model prog w) A env fun x s'=>R (.error x) s') s) :
  codeAny (model prog w) A (.compStart ce depth it acc env) R s:=by
 suffices key:wpAny (model prog w) A (compStart ce depth it acc env) (fun fin s'=>match fin with
   | .done f=>R (.ok f) s'
   | .again c'=>c'.quiet = true /\ codeAny (model prog w) A c' R s') (notedBy (model prog w) A env fun e s'=>R (.error e) s') s by
  cases hce <;> exact codeAny_of_tree (wpAny_notedAt key)
 have e2:(clausesOf ce)[depth]? = some g:=by rw [hc,hg]
 have e1:((clausesOf ce)[depth]?).elim false (·.is_async != 0) = false:=by
  rw [e2];exact congrArg (· != 0) ha
 unfold compStart;rw [e1,e2];refine wpAny_bind (wpAny_askSetting (wpAny_ite ?_))
 split
 ·first
   | exact wpAny_bind (wpAny_pure (wpAny_pure (And.intro rfl h0)))
   | exact wpAny_pure (And.intro rfl h0)
 ·exact wpAny_bind (wpAny_rule (wpAny_bind (wpAny_standAt (wpAny_bind (wpAny_mono h (fun it' s' h'=>wpAny_pure (And.intro rfl h')) fun _ _ x=>x)))))
noncomputable def fI (scope:Scope) (x:Str):Bool:=match scope.names.lookup x with
 | some .local | some .cell=>true
 | _=>false
noncomputable def dQ (scope:Scope) (env:Env) (L a:Addr):Prop:=∃ x,fI scope x = true /\ Fs (ap scope env L) x a
theorem dQ.fx {a:Addr} (h:dQ scope env L a):Fx (ap scope env L) a:=by
 obtain ⟨x,_,h | h⟩:=h
 ·exact .inl h.2
 ·exact .inr ⟨x,h.2⟩
theorem dQ.new {a:Addr} (hsc:br scope = true) (h:dQ scope env L a):L <= a:=by
 obtain ⟨x,hx,h⟩:=h;refine w8 hsc ?_ h
 unfold fI at hx;split at hx
 ·rename_i e;exact .inl (mem_of_lookup e)
 ·rename_i e;exact .inr (mem_of_lookup e)
 ·cases hx
noncomputable def ic (e:Expr) (depth:Nat) (iter:Expr) (env:Env) (acc:Value):Sem Unit:=do
 let x <- eval iter env
 standAt iter.pos
 let x <- foldedSetIterable iter env x
 let _ <- runOwn (.compStart e depth (<- holding [x] (pyIter x)) acc env) env
theorem uh (hW:Wok W T) {k:GK} {gens:List Comprehension} {g:Comprehension} {out:List D} (hce:gW ce) (hc:clausesOf ce = gens)
  (hg:gens[depth]? = some g) (ha:g.is_async = 0) (hf:∀ it acc,compTurn ce depth it acc env = cX ce depth p tgt ifs act it acc env)
  (hown:∀ a,Ft env tgt a->Own a) (hofx:∀ a,Own a->Fx env a) (hi:ITR W T n env μ iter tgt ds) (hl:CLL k W T n Own env tgt ifs act ds μ out) (hs:∀ x,foldedSetIterable iter env x = pure x) :
  ACT k W T n Own env μ (ic ce depth iter env) out:=by
 refine .of ?_;intro A s vm O M Dd out0 r t C hlen Q E q;unfold ic;refine wpAny_bind (wpAny_mono (hi.run A s vm O M r (C.ok t) C.fm C.vars (fun I sI=>wpAny (model W.prog W.w) A (runOwn (.compStart ce depth I (.ref Dd) env) env) (fun _ sB=>Q () sB) E sI) E fun I wr St h1a tA lA sI fr st wk=>?_)
  (fun x sI h=>wpAny_bind (wpAny_standAt (wpAny_bind (wpAny_of_eq (hs x) (wpAny_bind (wpAny_holding (wpAny_mono h (fun I sB hJ=>wpAny_bind (wpAny_mono hJ (fun _ sC h3a=>wpAny_pure h3a) fun _ _ x=>x)) fun _ _ x=>x))))))) fun _ _ x=>x)
 have nw':∀ {a},(s.heap.get? a).isSome->¬ wr a:=fun e w=>by rw [(fr _ w).1] at e;cases e
 have nwM:∀ a,wr a->¬ M a:=fun a w m=>nw' (C.live a m).2 w
 have nw:∀ a,wr a->¬ Fx env a /\ a ≠ Dd:=fun a w=>⟨fun f=>let ⟨_,e,_⟩:=C.fm.at_fx f;nw' (by rw [e];rfl) w,fun q=>nwM a w (q ▸ C.inM)⟩
 have mb:∀ a,M a \/ wr a->(s.heap.get? a).isSome->M a:=fun a m hs=>m.resolve_right (nw' hs)
 have C1':Cs k W T env μ O (fun a=>M a \/ wr a) Dd out0 h1a vm:=
  ⟨sI.gd,fun a m=>m.elim (fun m=>⟨(C.live a m).1,cZ sI (C.live a m).2⟩) fun w=>⟨(fr a w).2.1,wk.there _ _ a st w⟩,C.fm.step C.gd sI.kp,C.vars.step C.gd sI.kp (fun _ _ e=>e) mb,C.acc.mv (fun ob e=>sI.kp Dd ob (C.live Dd C.inM).1 e) (sI.kp.seq C.gd).m mb,.inl C.inM,C.above⟩
 refine wpAny_runOwn ?_
 have fin:codeAny (model W.prog W.w) A (.compLoop ce depth I (.ref Dd) env) (fun r s'=>match r with | .ok f=>Q () s' | .error e=>cameBackBy (model W.prog W.w) A env E e s') { s with heap:=h1a,toks:=tA }:=
  nJ hW hce hf hown hofx hl r (Nat.le_trans t lA) C1' C.inM nwM hlen wk nw st fun vm' h' tk le C' kp=>
   q vm' h' tk (Nat.le_trans lA le) C' fun a o ht nx e=>kp a o ht (fun z=>z.elim nx (nw' (by rw [e];rfl))) (sI.kp a o ht e)
 exact jN hce hc hg ha fin (wk.self _ _ _ _ st fin)
theorem Wk.more {I:Value} {St:List D->Heap->Prop} (wk:Wk W T A I wr h1a O M St tgt) (h1:∀ a,M a->M' a) (h2:∀ a,M' a->(h1a.get? a).isSome->M a):Wk W T A I wr h1a O M' St tgt where
 inM:=fun a w=>h1 a (wk.inM a w)
 there:=wk.there
 frame:=fun r h h' st k=>wk.frame r h h' st fun a o e c=>k a o e (c.imp id fun ⟨x,y,z⟩=>⟨x,fun m=>y (h2 a m z),z⟩)
 item:=fun d r s M2 P Q E ok mb=>wk.item d r s M2 P Q E ok fun a m hs=>h2 a (mb a m hs) hs
 done:=wk.done
 self:=wk.self
theorem vY {a:Addr} (hsc:br scope = true) (hfree:∀ q ∈ scope.names,q.2 = .free->(env.cells.lookup q.1).isSome = true) (f:Fx (ap scope env L) a):L <= a \/ ∃ x,env.cells.lookup x = some a:=by
 rcases f with rfl | ⟨x,e⟩
 ·exact .inl (Nat.le_refl _)
 ·have e':(cellsFrom (L + 1) scope.names (bL scope env)).lookup x = some a:=e;by_cases hx:(x,NameKind.cell) ∈ scope.names
  ·rw [gv scope.names _ _ [] hx] at e';have ok:=cellsFrom_ok scope.names (Heap.mk (Array.replicate (L + 1) default) {}) (L + 1) [] ⟨fun _ _ hm=>(nomatch hm),List.Pairwise.nil⟩ (le_of_eq Array.size_replicate.symm)
   have e2:(Heap.mk (Array.replicate (L + 1) default) {}).objs.size = L + 1:=Array.size_replicate;rw [e2] at ok;exact .inl (Nat.le_of_succ_le (ok.empty x a (mem_of_lookup e')).2)
  ·rw [fe _ _ _ hx] at e';rcases eP _ _ hfree e' with ⟨_,q⟩ | q
   ·exact .inr ⟨_,q⟩
   ·cases q
theorem p0 (hW:Wok W T) {rest:List Comprehension} {act:Addr->Value->Sem Unit} {out:List D} {new:Sem Value} (hce:gW ce) (hc:clausesOf ce = ⟨tgt,iter,ifs,0⟩ :: rest)
  (hnew:∀ {A:Around} {s:Shared} {Q E:Value->Shared->Prop},(∀ ob,(∀ h:Heap,(h.push ob).get? h.objs.size = some ob)->(∀ h O M Dd,h.get? Dd = some ob->Acc W g h O M Dd [])->Q (.ref s.heap.objs.size) { s with heap:=s.heap.push ob })->wpAny (model W.prog W.w) A new Q E s)
  (hi:ITR W T n env μ iter tgt ds) (hk:scope.kind = .function) (hsc:br scope = true) (hfree:∀ q ∈ scope.names,q.2 = .free->(env.cells.lookup q.1).isSome = true) (htn:(dK tgt).all (fI scope) = true)
  (hf:∀ L it acc,compTurn ce 0 it acc (ap scope env L) = cX ce 0 p tgt ifs (act L) it acc (ap scope env L))
  (hl:∀ L,CLL g W T n (dQ scope env L) (ap scope env L) tgt ifs (act L) ds (seen scope μ) out) (hlen:out.length <= g.lim) (hs:∀ x,foldedSetIterable iter env x = pure x) {use:Option (Value->Sem Unit)}
  (r:aL n A) (k:Ok W T M s) (F:Fm W s.heap env vm) (V:bz s.heap O M vm μ) 
  (q:∀ Dd C h' tk,s.toks <= tk->Stp W T s.heap h'->s.heap.get? Dd = none->W.nb <= Dd->Acc W g h' O (fun b=>M b \/ b = Dd) Dd out->s.heap.get? C = none->W.nb <= C->(∃ m,h'.Ns C m)->
   compPost (model W.prog W.w) A E use Q (.ref Dd) C (.ok .next) { s with heap:=h',toks:=tk }) :
  wpAny (model W.prog W.w) A (comprehension ce scope env pos new false (eval iter env) use) Q E s:=by
 refine wpAny_comprehension_free (g:=⟨tgt,iter,ifs,0⟩) (gs:=rest) hc hs (gz hfree) hk (fun x hx hl=>?_) ?_
 ·rw [of_decide_eq_true (List.all_eq_true.mp hsc x hx),hl]
 refine hi.run A s vm O M r k F V _ _ fun I wr St h1a tA lA sI fr st wk=>?_
 -- what is gathered in
 refine hnew fun ob hob hacc=>?_
 have kp2:∀ a o,h1a.get? a = some o->(h1a.push ob).get? a = some o:=fun a o e=>Heap.get?_push_of_some _ e
 have sB:Stp W T h1a (h1a.push ob):=.of hW sI.gd kp2;refine yd hW sB.gd ((F.step k.gd sI.kp).step sI.gd sB.kp) hk hsc hfree fun h3a kp3 F3=>?_
 have st3:Stp W T (h1a.push ob) h3a:=.of hW sB.gd kp3;have hsz:(h1a.push ob).objs.size = h1a.objs.size + 1:=Heap.size_push ..;have kall:∀ a o,h1a.get? a = some o->h3a.get? a = some o:=fun a o e=>kp3 a o (kp2 a o e)
 have sall:Stp W T s.heap h3a:=sI.trans (sB.trans st3);have eD:h3a.get? h1a.objs.size = some ob:=kp3 _ _ (hob h1a);generalize (h1a.push ob).objs.size = L at *;subst hsz;have t1':0 <= tA:=Nat.le_trans k.tk lA;have nw':∀ {a},(s.heap.get? a).isSome->¬ wr a:=fun e w=>by rw [(fr _ w).1] at e;cases e
 have old:∀ {a},(s.heap.get? a).isSome->a < h1a.objs.size:=fun e=>let ⟨_,e'⟩:=Option.isSome_iff_exists.mp (cZ sI e);Heap.lt_size e'
 have wlt:∀ {a},wr a->a < h1a.objs.size:=fun w=>let ⟨_,e'⟩:=Option.isSome_iff_exists.mp (wk.there _ _ _ st w);Heap.lt_size e'
 have wk':=wk.more (M':=fun a=>(M a \/ a = h1a.objs.size) \/ wr a) (fun a m=>m.imp .inl id) fun a m hs=>m.imp (fun m=>m.resolve_right fun z=>by rw [z,az] at hs;cases hs) id
 have st':St ds h3a:=wk.frame _ _ _ st fun a o e _=>kall a o e
 have C3:Cs g W T (ap scope env (h1a.objs.size + 1)) (seen scope μ) O (fun a=>(M a \/ a = h1a.objs.size) \/ wr a) h1a.objs.size [] h3a (seen scope vm):=by
  refine ⟨st3.gd,fun a m=>?_,F3,fun x d e=>?_,hacc _ _ _ _ eD,.inl (.inr rfl),sI.gd.size⟩
  ·rcases m with (m | rfl) | m
   ·exact ⟨(k.live a m).1,cZ sall (k.live a m).2⟩
   ·exact ⟨kZ sI.gd,by rw [eD];rfl⟩
   ·exact ⟨(fr a m).2.1,wk.there _ _ a st' m⟩
  ·unfold seen at e ⊢;split at e
   ·rename_i hx;rw [if_pos hx];obtain ⟨v,a,b⟩:=V x d e;exact ⟨v,a,b.step k.gd sall.kp (fun _ _ e=>e) fun c m hs=>(m.resolve_right (nw' hs)).resolve_right (ne_of_lt (old hs))⟩
   ·cases e
 have nw:∀ a,wr a->¬ Fx (ap scope env (h1a.objs.size + 1)) a /\ a ≠ h1a.objs.size:=fun a w=>⟨fun f=>(vY hsc hfree f).elim (fun z=>absurd (wlt w) (Nat.not_lt.mpr (Nat.le_of_succ_le z))) fun ⟨x,q⟩=>by
  obtain ⟨o,e3,_⟩:=F.cell x a q;exact nw' (by rw [e3];rfl) w,ne_of_lt (wlt w)⟩
 have fin:codeAny (model W.prog W.w) A (.compLoop ce 0 I (.ref h1a.objs.size) (ap scope env (h1a.objs.size + 1))) (compPost (model W.prog W.w) A E use Q (.ref h1a.objs.size) (h1a.objs.size + 1)) { s with heap:=h3a,toks:=tA }:=by
  refine nJ hW hce (hf _) (fun a ⟨x,hx,f⟩=>⟨x,List.all_eq_true.mp htn x hx,f⟩) (fun a f=>f.fx) (hl _) r t1' C3 (.inr rfl) (fun a w m=>m.elim (fun m=>nw' (k.live a m).2 w) (ne_of_lt (wlt w))) (Nat.le_trans (le_of_eq (Nat.zero_add _)) hlen) wk' nw st' fun vm' h' tk le C' kp=>?_
  refine q h1a.objs.size _ h' tk (Nat.le_trans lA le) ⟨fun a o ht e=>kp a o ht (fun z=>?_) (sall.kp a o ht e),C'.gd⟩ (mf sI) sI.gd.size C'.acc (eY sI (Heap.get?_none_of_le (le_succ _))) (Nat.le_succ_of_le sI.gd.size) (let ⟨m,hns,_⟩:=C'.fm.loc;⟨m,hns⟩)
  have es:(s.heap.get? a).isSome:=by rw [e];rfl
  exact z.elim (fun z=>z.elim (fun z=>absurd (old es) (Nat.not_lt.mpr (Nat.le_of_succ_le (z.new hsc)))) (ne_of_lt (old es))) (nw' es)
 exact jN hce hc rfl rfl fin (wk'.self _ _ _ _ st' fin)
variable {cpos:Pos}
theorem jL (hW:Wok W T) {rest:List Comprehension} {act:Addr->Value->Sem Unit} {out:List D} (hi:ITR W T n env μ iter tgt ds)
  (hk:scope.kind = .function) (hsc:br scope = true) (hfree:∀ q ∈ scope.names,q.2 = .free->(env.cells.lookup q.1).isSome = true) (htn:(dK tgt).all (fI scope) = true)
  (hf:∀ L it acc,compTurn (.ListComp elt (⟨tgt,iter,ifs,0⟩ :: rest) scope cpos) 0 it acc (ap scope env L) = cX (.ListComp elt (⟨tgt,iter,ifs,0⟩ :: rest) scope cpos) 0 p tgt ifs (act L) it acc (ap scope env L))
  (hl:∀ L,CLL .lst W T n (dQ scope env L) (ap scope env L) tgt ifs (act L) ds (seen scope μ) out) (hlen:out.length <= 10000) (hs:∀ x,foldedSetIterable iter env x = pure x) {use:Option (Value->Sem Unit)}
  (r:aL n A) (k:Ok W T M s) (F:Fm W s.heap env vm) (V:bz s.heap O M vm μ) 
  (q:∀ Dd C ys h' tk,s.toks <= tk->Stp W T s.heap h'->s.heap.get? Dd = none->W.nb <= Dd->h'.PlainList Dd ys.toArray->am h' O (fun b=>M b \/ b = Dd) ys out->s.heap.get? C = none->W.nb <= C->(∃ m,h'.Ns C m)->
   compPost (model W.prog W.w) A E use Q (.ref Dd) C (.ok .next) { s with heap:=h',toks:=tk }) :
  wpAny (model W.prog W.w) A (comprehension (.ListComp elt (⟨tgt,iter,ifs,0⟩ :: rest) scope cpos) scope env pos (newList []) false (eval iter env) use) Q E s:=
 p0 hW (g:=.lst) (.lst ..) rfl (fun hq=>wpAny_newObj_type (hq { cls:=.type "list",data:=.seq #[] } (fun _=>Heap.get?_push_size _ rfl) fun _ _ _ _ e=>⟨[],⟨0,e⟩,.nil⟩) (show (0:Nat) <= sizeLine from zero_le _)) hi hk hsc hfree htn hf hl hlen hs r k F V
  fun Dd C h' tk le st dn hD ⟨ys,pl,dl⟩ cn hC hns=>q Dd C ys h' tk le st dn hD pl dl cn hC hns
noncomputable abbrev c7 (elt:Expr) (env:Env) (acc:Value):Sem Unit:=do let _ <- call (.builtin "list.append") [acc,<- eval elt env]
structure Sc (scope:Scope) (env:Env) (names:List Str):Prop where
 kind:scope.kind = .function
 ok:br scope = true
 free:∀ q ∈ scope.names,q.2 = .free->(env.cells.lookup q.1).isSome = true
 own:names.all (fI scope) = true
theorem ox {m:Str->Option Value} (hn:h.Ns C m):∃ o,h.get? C = some o /\ ∀ xs k,o.data ≠ .seq xs k:=by
 obtain ⟨o,es,ep,ho,hd,_⟩:=hn;exact ⟨o,ho,ns hd rfl⟩
theorem wJ {m:Str->Option Value} (hn:h.Ns C m):∀ o,h.get? C = some o->¬ bH o:=fun o e=>by
 obtain ⟨o',es,ep,ho,hd,_⟩:=hn;rw [e] at ho;cases ho;exact e6 hd
theorem qa (hW:Wok W T) {rest:List Comprehension} {act:Addr->Value->Sem Unit} {out:List D} (hi:ITR W T n env μ iter tgt ds) (sc:Sc scope env (dK tgt))
  (hf:∀ L it acc,compTurn (.ListComp elt (⟨tgt,iter,ifs,0⟩ :: rest) scope cpos) 0 it acc (ap scope env L) = cX (.ListComp elt (⟨tgt,iter,ifs,0⟩ :: rest) scope cpos) 0 p tgt ifs (act L) it acc (ap scope env L))
  (hl:∀ L,CLL .lst W T n (dQ scope env L) (ap scope env L) tgt ifs (act L) ds (seen scope μ) out) (hlen:out.length <= 10000) (hs:autoParam (∀ x,foldedSetIterable iter env x = pure x) r1T) :
  EVF W T n env μ (.ListComp elt (⟨tgt,iter,ifs,0⟩ :: rest) scope cpos) out:=by
 refine .of ?_;intro A s vm O M r k F V Q E q;show wpAny _ A (comprehension (.ListComp elt (⟨tgt,iter,ifs,0⟩ :: rest) scope cpos) scope env _ (newList []) false (eval iter env) none) Q E s;refine jL hW hi sc.kind sc.ok sc.free sc.own hf hl hlen hs r k F V fun Dd C ys h' tk le st dn hD pl dl cn hC hns=>?_
 obtain ⟨m,hns⟩:=hns;refine ⟨m,hns,fun hJ sb=>?_⟩
 have sb:Heap.SameBut C h' hJ:=sb;obtain ⟨ob,hob,hnd⟩:=ox hns;have ks:=jl sb hob hnd;obtain ⟨j,epl⟩:=pl;exact q Dd ys hJ tk le ⟨fun a o ht e=>(sb.2 a (fun z=>by rw [z,cn] at e;cases e)).trans (st.kp a o ht e),st.gd.same hW hC (wJ hns) sb⟩ dn hD ⟨j,ks _ _ _ _ epl rfl⟩ (dl.kr ks)
theorem Rp.thaw {ys:List Value} (R:Rp W T env M0 μ Θ h vm O) (x:Stp W T h h') (dn:h.get? Dd = none) (hnb:W.nb <= Dd) (pl:h'.PlainList Dd ys.toArray) (dl:am h' O (fun b=>Mx M0 O Θ b \/ b = Dd) ys ds):Rp W T env M0 μ (Θ ++ [.mlist ds]) h' vm (O ++ [Dd]) /\ Nx W (Fx env) h O Θ h' (O ++ [Dd]) (Θ ++ [.mlist ds]):=by
 obtain ⟨R',x'⟩:=R.toRpH.new (ob:=.mlist ds) x dn hnb (let ⟨_,e⟩:=pl;by rw [e];rfl) ⟨ys,pl,dl.kseq (.refl _) (fun _ _ e=>dt e) fun _ m _=>m⟩
 exact ⟨R.called R' x',x'.wide⟩
theorem cL (hW:Wok W T) {x:Str} (he:EVF W T n env μ e ds) (hk:Sto env x = true) (hs:autoParam (swapsWith e (some (.Name x px)) pos.line env = pure false) rfT) :
  EX W T n env μ Θ (exec (.Assign [.Name x px] e pos) env) (.nxt (upd μ x (.ref Θ.length)) (Θ ++ [.mlist ds])):=by
 refine .of ?_;intro A s vm O M0 r t R Q E q;refine wpAny_Assign_Name (he.run A s vm O _ r (R.toRpH.ok t) R.fm R.vars _ _ fun Dd ys h1a tA lA st dn hnb pl dl=>?_) hs
 obtain ⟨R1,xA⟩:=R.thaw st dn hnb pl dl;refine bV R1.fm hk fun b h' tk lB fs sb F'=>?_
 have fb:Fx env b:=fs.elim (fun q=>.inl q.2) fun q=>.inr ⟨x,q.2⟩
 obtain ⟨R2,x2⟩:=R1.stored hW fb sb F' (d:=.ref Θ.length) (.ref (by rw [<- R.len];simp))
 exact q _ h' tk (Nat.le_trans lA lB) ⟨rfl,_,_,R2,xA.trans x2 R.len⟩
theorem md (hW:Wok W T) {x:Str} {rest:List Comprehension} {act:Addr->Value->Sem Unit} {out:List D} (hi:ITR W T n env μ iter tgt ds) (sc:Sc scope env (dK tgt))
  (hf:∀ L it acc,compTurn (.ListComp elt (⟨tgt,iter,ifs,0⟩ :: rest) scope cpos) 0 it acc (ap scope env L) = cX (.ListComp elt (⟨tgt,iter,ifs,0⟩ :: rest) scope cpos) 0 p tgt ifs (act L) it acc (ap scope env L))
  (hl:∀ L,CLL .lst W T n (dQ scope env L) (ap scope env L) tgt ifs (act L) ds (seen scope μ) out) (hlen:out.length <= 10000) (hk:Sto env x = true)
  (hsw:autoParam (swapsWith (.ListComp elt (⟨tgt,iter,ifs,0⟩ :: rest) scope cpos) (some (.Name x px)) pos.line env = pure true) rfT) (hs:autoParam (∀ x,foldedSetIterable iter env x = pure x) r1T) :
  EX W T n env μ Θ (exec (.Assign [.Name x px] (.ListComp elt (⟨tgt,iter,ifs,0⟩ :: rest) scope cpos) pos) env) (.nxt (upd μ x (.ref Θ.length)) (Θ ++ [.mlist out])):=by
 refine .of ?_;intro A s vm O M0 r t R Q E q;rw [exec_Assign_Name_used x px _ pos hsw];refine wpAny_bind (wpAny_standAt (wpAny_bind ?_))
 show wpAny _ A (comprehension (.ListComp elt (⟨tgt,iter,ifs,0⟩ :: rest) scope cpos) scope env _ (newList []) false (eval iter env) (some (assign (.Name x px) env)) >>= fun _=>pure ()) _ E s
 refine wpAny_bind (jL hW hi sc.kind sc.ok sc.free sc.own hf hl hlen hs r (R.toRpH.ok t) R.fm R.vars fun Dd C ys h1a tA lA st dn hD pl dl cn hC hns=>?_)
 obtain ⟨m,hns⟩:=hns;obtain ⟨R1,xA⟩:=R.thaw st dn hD pl dl;have nC:∀ b,Fx env b->b ≠ C:=fun b f z=>by obtain ⟨ob,e,_⟩:=R.fm.at_fx f;rw [z,cn] at e;cases e
 refine wpAny_assign_Name (bV R1.fm hk fun b h' tk lB fs sb F'=>?_)
 have fb:Fx env b:=fs.elim (fun q=>.inl q.2) fun q=>.inr ⟨x,q.2⟩
 obtain ⟨R2,x2⟩:=R1.stored hW fb sb F' (d:=.ref Θ.length) (.ref (by rw [<- R.len];simp))
 have hns2:h'.Ns C m:=hns.sameBut sb (Ne.symm (nC b fb));refine ⟨m,hns2,fun h3a sb3=>wpAny_pure (wpAny_pure ?_)⟩
 have sb3:Heap.SameBut C h' h3a:=sb3;have x12:=xA.trans x2 R.len;have CO:C ∉ O ++ [Dd]:=fun ha=>by
  rcases List.mem_append.mp ha with ha | ha
  ·have:=R.there C ha;rw [cn] at this;cases this
  ·obtain ⟨j,epl⟩:=pl;obtain ⟨o',h1,h2⟩:=ox hns;rw [List.mem_singleton.mp ha,epl] at h1;exact h2 _ _ (congrArg Obj.data (Option.some.inj h1).symm)
 have sc:∀ a,(s.heap.get? a).isSome->a ≠ C:=fun a e z=>by rw [z,cn] at e;cases e
 have gone:∀ a,(s.heap.get? a).isSome->h3a.get? a = h'.get? a:=fun a e=>sb3.2 a (sc a e)
 exact q _ h3a tk (Nat.le_trans lA lB) ⟨rfl,_,_,R2.scrap hW hC hns2 (fun f=>nC C f rfl) (fun m=>sc C (R.live C m).2 rfl) CO sb3,⟨fun a ob ht nx e=>(gone a (by rw [e];rfl)).trans (x12.kp a ob ht nx e),x12.ext,fun a e=>by rw [gone a e];exact x12.grow a e,x12.later⟩⟩
theorem Rp.freeze {x:Str} (R:Rp W T env M0 μ Θ h vm O) (hx:μ x = some (.ref i)) (hi:Θ[i]? = some (.mlist ds)):Rp W T env M0 (upd μ x (.list ds)) (Θ.set i .gone) h vm O:=by
 have liveSub:∀ a,bf O (Θ.set i .gone) a->bf O Θ a /\ O[i]? ≠ some a:=fun a ⟨j,ob,h1,h2,h3⟩=>by
  rcases kL h2 with ⟨_,q⟩ | ⟨q,z⟩
  ·exact absurd q h3
  ·exact ⟨⟨j,ob,h1,z,h3⟩,fun w=>q (eF R.nd w h1)⟩
 have sub:∀ a,Mx M0 O (Θ.set i .gone) a->Mx M0 O Θ a:=fun a m=>m.imp id fun l=>(liveSub a l).1
 have vs:bz h O (Mx M0 O (Θ.set i .gone)) vm μ:=R.vars.step R.gd (.refl W h) (fun _ _ e=>e) fun b m _=>sub b m
 refine ⟨⟨R.gd,R.live,R.len.trans List.length_set.symm,R.nd,R.apart,R.above,R.there,fun j a ob h1 h2=>?_⟩,R.fm,fun y d hy=>?_,fun a l=>R.sep a (liveSub a l).1⟩
 ·rcases kL h2 with ⟨_,rfl⟩ | ⟨_,z⟩
  ·exact trivial
  ·exact (R.obs j a ob h1 z).step R.gd (.refl W h) (fun _ _ e=>e) fun b m _=>sub b m
 ·by_cases hyx:y = x
  ·rw [hyx] at hy ⊢;have hy:some (D.list ds) = some d:=(if_pos rfl).symm.trans hy;rw [<- Option.some.inj hy];obtain ⟨v,a,b⟩:=R.vars x _ hx
   induction b using rE with
   | ref ha=>
   obtain ⟨vs,pl,dl⟩:=R.obs i _ _ ha hi;exact ⟨_,a,.list pl (fun m=>m.elim (R.apart _ (mem_of_getElem? ha)) fun l=>(liveSub _ l).2 ha) (dl.kseq (.refl _) (fun _ _ e=>e) fun b m _=>sub b m)⟩
  ·exact vs y d ((if_neg hyx).symm.trans hy)
theorem EX.freeze {c:Sem Flow} {x:Str} (hx:μ x = some (.ref i)) (hi:Θ[i]? = some (.mlist ds)) (h:EX W T n env (upd μ x (.list ds)) (Θ.set i .gone) c o):EX W T n env μ Θ c o:=by
 refine .of ?_;intro A s vm O M0 r t R Q E q;exact h.run A s vm O M0 r t (R.freeze hx hi) Q E fun f h' tk le p=>q f h' tk le (p.after R.len ⟨.refl _,.refl _ _,fun _ e=>e,gw hi fun q=>by cases q⟩)
theorem gP {a b:Int}:OPP W T .Sub (.int a) (.int b) (.int (a - b)):=by
 refine .of ?_;intro A s O M x y _ _ k dx dy Q E hQ;induction dx using iE;induction dy using iE;exact PyProof.Rows.sub_int (hQ _ s.heap _ (le_succ _) (.refl k.gd) (.int ..))
theorem mS {a b:Int} (ha:-(2 ^ 60) < a) (ha':a < 2 ^ 60) (hb:-(2 ^ 60) < b) (hb':b < 2 ^ 60):OPP W T .Mult (.int a) (.int b) (.int (a * b)):=by
 refine .of ?_;intro A s O M x y _ _ k dx dy Q E hQ;induction dx using iE;induction dy using iE;exact PyProof.Rows.mul_int (hQ _ s.heap _ (le_succ _) (.refl k.gd) (.int ..))
theorem cg {a b:Int} (hb:0 < b):OPP W T .Mod (.int a) (.int b) (.int (a % b)):=by
 refine .of ?_;intro A s O M x y _ _ k dx dy Q E hQ;induction dx using iE;induction dy using iE;refine mod_int' (by omega) ?_
 rw [Int.fmod_eq_emod_of_nonneg _ (by omega)]
 exact hQ _ s.heap _ (le_succ _) (.refl k.gd) (.int ..)
theorem eG {a b:Int} (hb:0 < b) (hb':b < 1073741824):OPP W T .FloorDiv (.int a) (.int b) (.int (a / b)):=by
 refine .of ?_;intro A s O M x y _ _ k dx dy Q E hQ;induction dx using iE;induction dy using iE;refine floordiv_int (by omega) ?_ (.inl (PyProof.noPylong_small (by omega)))
 rw [Int.fdiv_eq_ediv_of_nonneg _ (by omega)]
 exact hQ _ s.heap _ (le_succ _) (.refl k.gd) (.int ..)
theorem sX {a:Int} {m:Nat} (ha:a.natAbs < 2 ^ 64) (hm:m <= 1000):OPP W T .Pow (.int a) (.int m) (.int (a ^ m)):=by
 refine .of ?_;intro A s O M x y _ _ k dx dy Q E hQ;induction dx using iE;induction dy using iE;exact pow_int_small (by omega) (by omega) ha (by simpa using hQ _ s.heap _ (le_succ _) (.refl k.gd) (.int ..))
theorem mu {a b:List Nat} (ha:a.length <= 1000) (hb:b.length <= 1000):OPP W T .Add (.str (S a)) (.str (S b)) (.str (S (a ++ b))):=by
 refine .of ?_;intro A s O M x y _ _ k dx dy Q E hQ;induction dx using sE;induction dy using sE;refine wpAny_with_toks (Nat.le_refl s.toks) (PyProof.Rows.add_str (fun t' tk le=>?_) (by rw [ft,ft,sizeLine_eq];omega))
 have e:S a ++ S b = S (a ++ b):=by
  show (⟨a.toArray ++ b.toArray⟩:Str) = _;simp
 rw [e];exact hQ _ s.heap _ le (.refl k.gd) (.str ..)
theorem sH {a b:Int}:CMP W T .Lt (.int a) (.int b) (decide (a < b)):=by
 refine .of ?_;intro A s O M x y _ _ k dx dy Q E hQ;induction dx using iE;induction dy using iE;exact PyProof.Rows.lt_int (hQ s.heap _ (Nat.le_refl _) (.refl k.gd))
theorem bU {a b:Int}:CMP W T .Gt (.int a) (.int b) (decide (b < a)):=by
 refine .of ?_;intro A s O M x y _ _ k dx dy Q E hQ;induction dx using iE;induction dy using iE;exact PyProof.Rows.gt_int (hQ s.heap _ (Nat.le_refl _) (.refl k.gd))
theorem gJ {a b:Int}:CMP W T .LtE (.int a) (.int b) (decide (a <= b)):=by
 refine .of ?_;intro A s O M x y _ _ k dx dy Q E hQ;induction dx using iE;induction dy using iE;exact PyProof.Rows.le_int (hQ s.heap _ (Nat.le_refl _) (.refl k.gd))
theorem dE {a b:Int}:CMP W T .Eq (.int a) (.int b) (a == b):=by
 refine .of ?_;intro A s O M x y _ _ k dx dy Q E hQ;induction dx using iE;induction dy using iE;exact PyProof.Rows.eq_int (hQ s.heap _ (Nat.le_refl _) (.refl k.gd))
theorem jx {a b:Int}:CMP W T .NotEq (.int a) (.int b) (a != b):=by
 refine .of ?_;intro A s O M x y _ _ k dx dy Q E hQ;induction dx using iE;induction dy using iE;exact PyProof.Rows.ne_int (hQ s.heap _ (Nat.le_refl _) (.refl k.gd))
theorem sq {a b:Str}:CMP W T .Eq (.str a) (.str b) (a == b):=by
 refine .of ?_;intro A s O M x y _ _ k dx dy Q E hQ;induction dx using sE;induction dy using sE;exact PyProof.Rows.eq_str (hQ s.heap _ (Nat.le_refl _) (.refl k.gd))
theorem sv {a b:Str}:CMP W T .NotEq (.str a) (.str b) (a != b):=by
 refine .of ?_;intro A s O M x y _ _ k dx dy Q E hQ;induction dx using sE;induction dy using sE;exact PyProof.Rows.ne_str (hQ s.heap _ (Nat.le_refl _) (.refl k.gd))
variable {value slice:Expr}
theorem bZ {k:Int} (hv:EVP W T n env μ value (.list ds)) (hi:EVP W T n env μ slice (.int k)) (h0:0 <= k) (hk:ds[k.toNat]? = some d) (hfit:k < 2 ^ 60)
  (hs:autoParam (∀ o i,subscripted slice false o i = operate [o,i] (getItem o i)) w2T):EVP W T n env μ (.Subscript value slice pos) d:=by
 refine .of ?_;intro A s vm O M r kk F V Q E q;refine Subscript_ (hv.run A s vm O M r kk F V _ _ fun x h1a tA lA sI dA=>?_)
 have kI:=kk.step lA sI;refine hi.run A _ vm O M r kI (F.step kk.gd sI.kp) (V.st kk.gd sI.kp) _ _ fun y hJ tJ lB sB dB=>?_
 have d1':=dA.st sI.gd sB.kp
 induction d1' using lE with
 | list pl nm dl=>
 induction dB using iE with
 | int u=>
 obtain ⟨v,hv,dv⟩:=dl.get _ d hk;exact tail_any (pl.isList.typeIs) slot_list_getitem.lookup (wpAny_getItem_list pl.isList h0 (by omega) (by simpa using hv) (q v hJ tJ (Nat.le_trans lA lB) (sI.trans sB) dv)) (hs _ _)
theorem wS (hv:EVP W T n env μ value (.list ds)) (hi:EVP W T n env μ slice (.int (-1))) (hk:ds.getLast? = some d)
  (hs:autoParam (∀ o i,subscripted slice false o i = operate [o,i] (getItem o i)) w2T):EVP W T n env μ (.Subscript value slice pos) d:=by
 refine .of ?_;intro A s vm O M r kk F V Q E q;refine Subscript_ (hv.run A s vm O M r kk F V _ _ fun x h1a tA lA sI dA=>?_)
 have kI:=kk.step lA sI;refine hi.run A _ vm O M r kI (F.step kk.gd sI.kp) (V.st kk.gd sI.kp) _ _ fun y hJ tJ lB sB dB=>?_
 have d1':=dA.st sI.gd sB.kp
 induction d1' using lE with
 | list pl nm dl=>
 induction dB using iE with
 | int u=>
 rename_i ax vs;have hlen:=dl.length;have hpos:0 < ds.length:=by
  cases ds with
  | nil=>simp at hk
  | cons=>simp
 rw [List.getLast?_eq_getElem?] at hk;obtain ⟨v,hv,dv⟩:=dl.get _ d hk;have e:(-1 + (vs.toArray.size:Int)).toNat = ds.length - 1:=by simp;omega
 have hv':vs.toArray[(-1 + (vs.toArray.size:Int)).toNat]? = some v:=by rw [e];simpa using hv
 have h1:-(vs.toArray.size:Int) <= -1:=by simp;omega
 exact tail_any (pl.isList.typeIs) slot_list_getitem.lookup (wpAny_getItem_list_neg pl.isList (by decide) h1 (by decide) hv' (q v hJ tJ (Nat.le_trans lA lB) (sI.trans sB) dv)) (hs _ _)
theorem iF {l:List Nat} {k:Int} {c:Nat} (hv:EVP W T n env μ value (.str (S l))) (hi:EVP W T n env μ slice (.int k)) (h0:0 <= k) (hk:l[k.toNat]? = some c) (hl:l.length <= 1000000)
  (hs:autoParam (∀ o i,subscripted slice false o i = operate [o,i] (getItem o i)) w2T) (ht:∀ x t r,letTemporaryGo value (.str x t) r = pure ():=by intro _ _ _;with_unfolding_all rfl):EVP W T n env μ (.Subscript value slice pos) (.str (S [c])):=by
 refine .of ?_;intro A s vm O M r kk F V Q E q;refine Subscript_ (hv.run A s vm O M r kk F V _ _ fun x h1a tA lA sI dA=>?_)
 have kI:=kk.step lA sI;refine hi.run A _ vm O M r kI (F.step kk.gd sI.kp) (V.st kk.gd sI.kp) _ _ fun y hJ tJ lB sB dB=>?_
 induction dA using sE with
 | str t=>
 induction dB using iE with
 | int u=>
 have hlt:=(List.getElem?_eq_some_iff.mp hk).1;have hS:=ft l;have e:Txt.item (S l) k = S [c]:=by
  have e1:seqIndex? k (S l).length = some k.toNat:=by
   unfold seqIndex?;rw [hS];have h1:¬ k < 0:=by omega
   simp only [h1,if_false];have h2:k < l.length:=by omega
   simp [h0,h2]
  unfold Txt.item Txt.charAt;rw [e1];show (⟨#[((S l).cps[k.toNat]?).getD 0]⟩:Str) = _;have e2:(S l).cps[k.toNat]? = some c:=by simpa using hk
  rw [e2];rfl
 refine item_str (fitsSsize_of (N:=9223372036854775808) (by omega) (by omega) (Int.le_refl _)) (by omega) (by omega) (fun _=>?_) (hs _ _) (ht _ _)
 rw [e];exact q _ hJ _ (Nat.le_trans lA (Nat.le_trans lB (le_succ _))) (sI.trans sB) (.str ..)
mutual
noncomputable def D.py:D->PyData
 | .none=>.none
 | .bool b=>.bool b
 | .int i=>.int i
 | .str x=>.str x
 | .list ds=>.list (D.pyL ds)
 | .tup ds=>.tuple (D.pyL ds)
 | .ref _=>.none
noncomputable def D.pyL:List D->List PyData
 | []=>[]
 | d :: ds=>D.py d :: D.pyL ds
end
theorem D.pyL_map:∀ ds:List D,D.pyL ds = ds.map D.py
 | []=>rfl
 | d :: ds=>by rw [D.pyL,D.pyL_map ds];rfl
structure cU (d:D):Prop where
 nr:d.nr = true
 lay:d.py.canLay0 = true
 dep:d.py.depth <= 20
theorem Den.reads (x:Den h O M v d):d.nr = true->∃ as,Reads h v d.py as:=
 Den.rec (motive_1:=fun v d _=>d.nr = true->∃ as,Reads h v d.py as) (motive_2:=fun vs ds _=>D.nrL ds = true->∃ as,ReadsAll h vs (D.pyL ds) as) (fun _=>⟨_,.none⟩) (fun b _=>⟨_,.bool b⟩) (fun i t _=>⟨_,.int i t⟩) (fun x t _=>⟨_,.str x t⟩)
  (fun p _ _ ih q=>let ⟨_,e⟩:=p;let ⟨_,ra⟩:=ih q;⟨_,.list e rfl rfl ra⟩) (fun p _ _ ih q=>let ⟨_,e⟩:=p;let ⟨_,ra⟩:=ih q;⟨_,.tuple e rfl rfl ra⟩) (fun _ q=>nomatch q)
  (fun _=>⟨_,.nil⟩) (fun _ _ i1 i2 q=>let ⟨_,ra⟩:=i1 (Bool.and_eq_true_iff.mp q).1;let ⟨_,rb⟩:=i2 (Bool.and_eq_true_iff.mp q).2;⟨_,.cons ra rb⟩) x
theorem am.reads (x:am h O M vs ds) (q:D.nrL ds = true):∃ as,ReadsAll h vs (D.pyL ds) as:=by
 induction ds generalizing vs with
 | nil=>induction x using qE;exact ⟨_,.nil⟩
 | cons d ds ih=>induction x using kE with
  | cons x y=>
   obtain ⟨as,ra⟩:=x.reads (Bool.and_eq_true_iff.mp q).1;obtain ⟨bs,rb⟩:=ih y (Bool.and_eq_true_iff.mp q).2;exact ⟨_,.cons ra rb⟩
noncomputable def D.eqv (a b:D):Bool:=PyData.eqv a.py b.py
theorem mF {a b:D} (ha:cU a) (hb:cU b):CMP W T .Eq a b (a.eqv b):=by
 refine .of ?_;intro A s O M x y _ hu k dx dy Q E hQ;obtain ⟨as,ra⟩:=dx.reads ha.nr;obtain ⟨bs,rb⟩:=dy.reads hb.nr;exact SeqAt.compareEq_reads ra rb ha.lay hb.lay (by have:=ha.dep;omega) (hQ s.heap _ (Nat.le_refl _) (.refl k.gd))
theorem fu {a b:D} (ha:cU a) (hb:cU b):CMP W T .NotEq a b (!a.eqv b):=by
 refine .of ?_;intro A s O M x y _ hu k dx dy Q E hQ;obtain ⟨as,ra⟩:=dx.reads ha.nr;obtain ⟨bs,rb⟩:=dy.reads hb.nr;exact SeqAt.compareNe_reads ra rb ha.lay hb.lay (by have:=ha.dep;omega) (hQ s.heap _ (Nat.le_refl _) (.refl k.gd))
theorem uQ (ds:List D) (a:D):((D.pyL ds).any fun y=>PyData.eqv y a.py) = ds.any fun y=>y.eqv a:=by rw [D.pyL_map,List.any_map];rfl
theorem jV {a:D} (ha:cU a) (hb:cU (.list ds)):CMP W T .In a (.list ds) (ds.any fun y=>y.eqv a):=by
 refine .of ?_;intro A s O M x y _ hu k dx dy Q E hQ;obtain ⟨as,ra⟩:=dx.reads ha.nr;obtain ⟨bs,rb⟩:=dy.reads hb.nr;exact SeqAt.in_list_reads rb ra (by have:=hb.lay;rw [D.py,PyData.canLay0] at this;exact this) ha.lay (by have:=ha.dep;omega) (by rw [uQ];exact hQ s.heap _ (Nat.le_refl _) (.refl k.gd))
theorem iy {a:D} (ha:cU a) (hb:cU (.list ds)):CMP W T .NotIn a (.list ds) (!ds.any fun y=>y.eqv a):=by
 refine .of ?_;intro A s O M x y _ hu k dx dy Q E hQ;obtain ⟨as,ra⟩:=dx.reads ha.nr;obtain ⟨bs,rb⟩:=dy.reads hb.nr;exact SeqAt.notIn_list_reads rb ra (by have:=hb.lay;rw [D.py,PyData.canLay0] at this;exact this) ha.lay (by have:=ha.dep;omega) (by rw [uQ];exact hQ s.heap _ (Nat.le_refl _) (.refl k.gd))
noncomputable def fi (ds es:List D):List D:=List.zipWith (fun d e=>.tup [d,e]) ds es
noncomputable def gM (ds:List D):List D:=ds.zipIdx.map fun p=>.tup [.int p.2,p.1]
theorem wZ (h:(fi ds es)[k]? = some d):∃ a b,ds[k]? = some a /\ es[k]? = some b /\ d = .tup [a,b]:=by
 unfold fi at h;rw [List.getElem?_zipWith] at h
 cases h1:ds[k]? with
 | none=>rw [h1] at h;cases h
 | some a=>
  cases h2:es[k]? with
  | none=>rw [h1,h2] at h;cases h
  | some b=>rw [h1,h2] at h;cases h;exact ⟨a,b,rfl,rfl,rfl⟩
theorem vG (h:(fi ds es).length <= k):ds[k]? = none \/ es[k]? = none:=by
 unfold fi at h;rw [List.length_zipWith] at h;rcases Nat.le_total ds.length es.length with q | q
 ·exact .inl (List.getElem?_eq_none (Nat.min_eq_left q ▸ h))
 ·exact .inr (List.getElem?_eq_none (Nat.min_eq_right q ▸ h))
theorem am.none_at (dl:am h O M vs ds) (e:ds[k]? = none):vs[k]? = none:=by
 rw [List.getElem?_eq_none_iff] at e ⊢;rw [dl.length];exact e
noncomputable def lI (m a:Addr):Prop:=a = m \/ a = m + 1 \/ a = m + 2 \/ a = m + 3 \/ a = m + 4
noncomputable def Two (m a:Addr):Prop:=a = m \/ a = m + 1
theorem lI.le {m a:Addr} (f:lI m a):m <= a:=by
 rcases f with rfl | rfl | rfl | rfl | rfl
 ·exact Nat.le_refl _
 all_goals exact le_add_right _ _
theorem Two.le {m a:Addr} (f:Two m a):m <= a:=f.elim (fun e=>le_of_eq e.symm) fun e=>e ▸ le_succ m
theorem uV (hW:Wok W T) {I:Value} {it:Nat->Heap->Prop} (hM:∀ a,wr a->M a) (hnb:∀ a,wr a->W.nb <= a)
  (hth:∀ k h,it k h->∀ a,wr a->∃ o,h.get? a = some o /\ ¬ bH o) (hfr:∀ k h h',it k h->(∀ a o,wr a->h.get? a = some o->h'.get? a = some o)->it k h')
  (hit:∀ k d (s:Shared) (P:Option Value->Shared->Prop) (Q E:Value->Shared->Prop),it k s.heap->ds[k]? = some d->aN M h1a s.heap->
   (∀ v sI,wpAny (model W.prog W.w) A (letOwnedTupleGo tgt I v) (fun _ sB=>Q v sB) E sI->P (some v) sI)->
   (∀ v h' tk,s.toks <= tk->it (k + 1) h'->(∀ a o,¬ wr a->s.heap.get? a = some o->h'.get? a = some o)->(∀ M':Addr->Prop,(∀ a,M' a->(s.heap.get? a).isSome)->(∀ a,M' a->(h1a.get? a).isSome->M a)->aN M h1a h'->Den h' O M' v d)->Q v { s with heap:=h',toks:=tk })->wpAny (model W.prog W.w) A (pyNext I) P E s)
  (hdone:∀ k (s:Shared) (Q:Option Value->Shared->Prop) (E:Value->Shared->Prop),it k s.heap->ds.length <= k->aN M h1a s.heap->
   (∀ h' tk,s.toks <= tk->(∀ a o,¬ wr a->s.heap.get? a = some o->h'.get? a = some o)->Q none { s with heap:=h',toks:=tk })->wpAny (model W.prog W.w) A (pyNext I) Q E s)
  (hself:∀ k (s:Shared) (Q E:Value->Shared->Prop),it k s.heap->Q I s->wpAny (model W.prog W.w) A (pyIter I) Q E s) :
  Wk W T A I wr h1a O M (fun r h=>∃ k,it k h /\ r = ds.drop k /\ aN M h1a h) tgt:=
 have ni:∀ {s h':Heap} {k:Nat},it k s->(∀ a o,¬ wr a->s.get? a = some o->h'.get? a = some o)->∀ a o,a < W.nb \/ bH o->s.get? a = some o->h'.get? a = some o:=fun st kp a o ha e=>kp a o (fun q=>
  let ⟨_,e',nc⟩:=hth _ _ st a q
  ha.elim (fun ha=>absurd (hnb a q) (Nat.not_le.mpr ha)) (Option.some.inj (e'.symm.trans e) ▸ nc)) e
 {
  inM:=hM
  there:=fun r h a ⟨k,st,_⟩ w=>let ⟨o,e,_⟩:=hth k h st a w;by rw [e];rfl
  frame:=fun r h h' ⟨k,st,hr,hs⟩ kk=>⟨k,hfr k h h' st fun a o w e=>kk a o e (.inl w),hr,fun a o xs j nm e hd=>kk a o (hs a o xs j nm e hd) (.inr ⟨⟨xs,j,hd⟩,nm,by rw [e];rfl⟩)⟩
  item:=fun d r s M' P Q E ok mb ⟨k,st,hr,hs⟩ hP hQ=>
   let ⟨hd,hr'⟩:=gF hr
   hit k d s P Q E st hd hs hP fun v h' tk le st' kp dn=>
    have hs':aN M h1a h':=fun a o xs j nm e hd=>kp a o (fun f=>nm (hM a f)) (hs a o xs j nm e hd)
    hQ v h' tk le (ok.gd.base hW (ni st kp)) (fun a o _ nf e=>kp a o nf e) ⟨k + 1,st',hr',hs'⟩ (dn M' (fun a m=>(ok.live a m).2) mb hs')
  done:=fun s Q E g ⟨k,st,hr,hs⟩ hQ=>hdone k s Q E st (List.drop_eq_nil_iff.mp hr.symm) hs fun h' tk le kp=>hQ h' tk le (g.base hW (ni st kp)) fun a o _ nf e=>kp a o nf e
  self:=fun r s Q E ⟨k,st,_⟩ hQ=>hself k s Q E st hQ }
theorem aj {m:Nat} (h:Nat.beq i j = false):m + i ≠ m + j:=fun z=>Nat.ne_of_beq_eq_false h (Nat.add_left_cancel z)
structure zq (m l1 l2:Addr) (k:Nat) (h:Heap):Prop where
 z:IsZip h (m + 4) (m + 2) (m + 3) .none
 i:IsPair h (m + 2) (.ref m) (.ref (m + 1))
 o:∃ a b,IsPair h (m + 3) a b
 a:h.IsListIter m l1 k
 b:h.IsListIter (m + 1) l2 k
theorem kD {a:Addr} (x:h.IsListIter a l k) (e:∀ o,h.get? a = some o->h'.get? a = some o):h'.IsListIter a l k:=let ⟨o,q,r⟩:=x;⟨o,e o q,r⟩
variable {tes:List Expr} {tj:Nat} {tp:Pos}
theorem yv (hW:Wok W T) {m l1 l2:Addr} (hh:A.handled = none) (hM:∀ a,lI m a->M a) (n1:¬ M l1) (n2:¬ M l2) (b1:l1 < m) (b2:l2 < m) (hnb:W.nb <= m)
  (p1:h1a.PlainList l1 vs.toArray) (dl1:am h1a O M vs ds) (p2:h1a.PlainList l2 ws.toArray) (dl2:am h1a O M ws es) (ht:tgt = .Tuple tes tj tp) :
  Wk W T A (.ref (m + 4)) (lI m) h1a O M (fun r h=>∃ k,zq m l1 l2 k h /\ r = (fi ds es).drop k /\ aN M h1a h) tgt:=by
 refine uV hW hM (fun a f=>Nat.le_trans hnb f.le) (fun k h st a f=>?_) (fun k h h' st kk=>⟨kk _ _ (.inr (.inr (.inr (.inr rfl)))) st.z,kk _ _ (.inr (.inr (.inl rfl))) st.i,let ⟨a,b,x⟩:=st.o;⟨a,b,kk _ _ (.inr (.inr (.inr (.inl rfl)))) x⟩,kD st.a fun o=>kk _ o (.inl rfl),kD st.b fun o=>kk _ o (.inr (.inl rfl))⟩)
  (fun k d s P Q E st hd hs hP hQ=>?_) (fun k s Q E st hk hs hQ=>?_) fun k s Q E st hQ=>wpAny_pyIter_zip st.z hQ
 ·obtain ⟨x,y,hto⟩:=st.o;rcases f with rfl | rfl | rfl | rfl | rfl
  ·exact o7 st.a
  ·exact o7 st.b
  ·exact ⟨_,st.i,jZ rfl⟩
  ·exact ⟨_,hto,jZ rfl⟩
  ·exact ⟨_,st.z,cr rfl fun q t z=>by simp at z⟩
 ·obtain ⟨x,y,hto⟩:=st.o;obtain ⟨j1,e1⟩:=p1;obtain ⟨j2,e2⟩:=p2;obtain ⟨da,db,ha,hb,rfl⟩:=wZ hd;obtain ⟨v,hv,dv⟩:=dl1.get _ da ha;obtain ⟨u,hu,du⟩:=dl2.get _ db hb;refine wpAny_pyNext_zip_item (zipApart_new b1 b2) st.z st.i hto st.a st.b (Heap.PlainList.isList ⟨j1,hs l1 _ _ _ n1 e1 rfl⟩) (Heap.PlainList.isList ⟨j2,hs l2 _ _ _ n2 e2 rfl⟩) (x:=v) (y:=u) (List.getElem?_toArray.trans hv) (List.getElem?_toArray.trans hu) fun h' hz' hto' h1' h2' hp' hsz kp=>hP _ _ ?_
  clear hP;have nS:s.heap.objs.size ≠ m + 4:=fun z=>absurd (Heap.lt_size st.z) (Nat.not_lt.mpr (le_of_eq z))
  subst ht;refine wpAny_letOwnedTupleGo_zip hz' fun h'' hz'' (sb:Heap.SameBut (m + 4) h' h'')=>?_
  refine hQ (.ref s.heap.objs.size) h'' s.toks (Nat.le_refl _) ⟨hz'',(sb.2 _ (aj rfl)).trans (kp _ _ (aj rfl) (aj rfl) (aj (j:=0) rfl) (aj rfl) st.i),⟨_,_,(sb.2 _ (aj rfl)).trans hto'⟩,kD h1' fun o=>(sb.2 _ (aj (i:=0) rfl)).trans,kD h2' fun o=>(sb.2 _ (aj rfl)).trans⟩
   (fun a o nf e=>(sb.2 a fun z=>nf (.inr (.inr (.inr (.inr z))))).trans (kp a o (fun z=>nf (.inr (.inr (.inr (.inr z))))) (fun z=>nf (.inr (.inr (.inr (.inl z))))) (fun z=>nf (.inl z)) (fun z=>nf (.inr (.inl z))) e))
   fun M' al mb ks=>.tup (vs:=[v,u]) ⟨0,(sb.2 _ nS).trans hp'⟩ (fun q=>by have:=al _ q;rw [az] at this;cases this) (.cons (dv.kseqM ks (fun _ _ e=>e) mb) (.cons (du.kseqM ks (fun _ _ e=>e) mb) .nil))
 ·obtain ⟨x,y,hto⟩:=st.o;obtain ⟨j1,e1⟩:=p1;obtain ⟨j2,e2⟩:=p2;have hend:vs.toArray[k]? = none \/ ws.toArray[k]? = none:=(vG hk).imp (fun e=>List.getElem?_toArray.trans (dl1.none_at e)) fun e=>List.getElem?_toArray.trans (dl2.none_at e)
  exact wpAny_pyNext_zip_end hh (zipApart_new b1 b2) st.z st.i hto st.a st.b (Heap.PlainList.isList ⟨j1,hs l1 _ _ _ n1 e1 rfl⟩) (Heap.PlainList.isList ⟨j2,hs l2 _ _ _ n2 e2 rfl⟩) hend fun h' kp=>
   hQ h' s.toks (Nat.le_refl _) fun a o nf e=>kp a o (fun z=>nf (.inr (.inr (.inr (.inr z))))) (fun z=>nf (.inr (.inr (.inr (.inl z))))) (fun z=>nf (.inl z)) (fun z=>nf (.inr (.inl z))) e
theorem iW (hW:Wok W T) (hx:Glb W env "zip" (.type "zip")) (h1:EVP W T n env μ eI (.list ds)) (h2:EVP W T n env μ eJ (.list es)) (ht:tgt = .Tuple tes tj tp)
  (hs:autoParam (starEach [eI,eJ] env = [(false,eval eI env),(false,eval eJ env)]) rfT):ITR W T n env μ (.Call (.Name "zip" np) [eI,eJ] [] pos) tgt (fi ds es):=by
 refine .of ?_;intro A s vm O M r k F V Q E q;refine Call_Name2 (bT hW k.gd F hx ?_) hs
 refine aO rfl rfl (Calls.evalArgs_plain (Calls.spliced_cons (h1.run A s vm O M r k F V _ _ fun v h1a tA lA sI dA=>Calls.spliced_cons ?_)))
 have kI:=k.step lA sI;refine h2.run A _ vm O M r kI (F.step k.gd sI.kp) (V.st k.gd sI.kp) _ _ fun v hJ tJ lB sB dB=>Calls.spliced_nil ?_
 have dA:=dA.st sI.gd sB.kp
 induction dA using lE with
 | list p1 n1 dl1=>
 induction dB using lE with
 | list p2 n2 dl2=>
 rename_i a1 vs a2 ws;refine call_zip_2 p1.isList p2.isList fun h' hz hti hto hi1 hi2 hsz kp=>?_
 have kp:∀ c o,hJ.get? c = some o->h'.get? c = some o:=kp;have st:Stp W T hJ h':=.of hW sB.gd kp;have kJ:=kI.step lB sB;have b1:a1 < hJ.objs.size:=let ⟨j,e⟩:=p1;Heap.lt_size e
 have b2:a2 < hJ.objs.size:=let ⟨j,e⟩:=p2;Heap.lt_size e
 have s12:=sI.trans sB;have n5:∀ a,lI hJ.objs.size a->hJ.get? a = none:=fun a f=>Heap.get?_none_of_le f.le
 have mm:∀ a,(M a \/ lI hJ.objs.size a)->(hJ.get? a).isSome->M a:=fun a m hs=>m.elim id fun f=>by rw [n5 a f] at hs;cases hs
 have p1':=p1;have p2':=p2;obtain ⟨j1,q1⟩:=p1';obtain ⟨j2,q2⟩:=p2';refine wpAny_pyIter_zip hz (q (.ref (hJ.objs.size + 4)) (lI hJ.objs.size) _ h' tJ (Nat.le_trans lA lB) (s12.trans st) (fun a f=>⟨eY s12 (n5 a f),jF sB.gd (n5 a f),Nat.le_trans sB.gd.size f.le⟩) ?_
  (yv hW r.handled (fun a f=>.inr f) (fun m=>n1 (mm _ m (by rw [q1];rfl))) (fun m=>n2 (mm _ m (by rw [q2];rfl))) b1 b2 sB.gd.size ⟨j1,kp _ _ q1⟩ (dl1.step sB.gd st.kp (fun _ _ e=>e) mm) ⟨j2,kp _ _ q2⟩ (dl2.step sB.gd st.kp (fun _ _ e=>e) mm) ht))
 exact ⟨0,⟨hz,hti,⟨_,_,hto⟩,hi1,hi2⟩,rfl,fun a o xs j _ e _=>e⟩
theorem wD (h:(gM ds)[k]? = some d):∃ a,ds[k]? = some a /\ d = .tup [.int k,a]:=by
 unfold gM at h;rw [getElem?_map,List.getElem?_zipIdx] at h
 cases h1:ds[k]? with
 | none=>rw [h1] at h;cases h
 | some a=>rw [h1] at h;simp at h;exact ⟨a,rfl,h.symm⟩
theorem ti (h:(gM ds).length <= k):ds[k]? = none:=by
 unfold gM at h;rw [length_map,List.length_zipIdx] at h;exact List.getElem?_eq_none h
structure yz (m l1:Addr) (k:Nat) (h:Heap):Prop where
 z:∃ a,IsEnum h (m + 1) m k a
 a:h.IsListIter m l1 k
theorem wY (hW:Wok W T) {m l1:Addr} (hh:A.handled = none) (hM:∀ a,Two m a->M a) (n1:¬ M l1) (hnb:W.nb <= m)
  (p1:h1a.PlainList l1 vs.toArray) (dl1:am h1a O M vs ds) (ht:tgt = .Tuple tes tj tp) :
  Wk W T A (.ref (m + 1)) (Two m) h1a O M (fun r h=>∃ k,yz m l1 k h /\ r = (gM ds).drop k /\ aN M h1a h) tgt:=by
 refine uV hW hM (fun a f=>Nat.le_trans hnb f.le) (fun k h st a f=>?_) (fun k h h' st kk=>⟨let ⟨a,x⟩:=st.z;⟨a,kk _ _ (.inr rfl) x⟩,kD st.a fun o=>kk _ o (.inl rfl)⟩)
  (fun k d s P Q E st hd hs hP hQ=>?_) (fun k s Q E st hk hs hQ=>?_) fun k s Q E st hQ=>let ⟨_,x⟩:=st.z;wpAny_pyIter_enum x hQ
 ·obtain ⟨x,hz⟩:=st.z;rcases f with rfl | rfl
  ·exact o7 st.a
  ·exact ⟨_,hz,cr rfl fun q t z=>by simp at z⟩
 ·obtain ⟨x,hz⟩:=st.z;obtain ⟨j1,e1⟩:=p1;obtain ⟨da,ha,rfl⟩:=wD hd;obtain ⟨v,hv,dv⟩:=dl1.get _ da ha;refine wpAny_pyNext_enum_item hz st.a (Heap.PlainList.isList ⟨j1,hs l1 _ _ _ n1 e1 rfl⟩) (x:=v) (List.getElem?_toArray.trans hv) (ne_of_gt (lt_succ_self m)) fun h' hz' h1' hp' hsz kp=>hP _ _ ?_
  clear hP;have nS:s.heap.objs.size ≠ m + 1:=fun z=>absurd (Heap.lt_size hz) (Nat.not_lt.mpr (le_of_eq z))
  subst ht;refine wpAny_letOwnedTupleGo_enum hz' fun h'' hz'' (sb:Heap.SameBut (m + 1) h' h'')=>?_
  exact hQ (.ref s.heap.objs.size) h'' (s.toks + 1) (le_succ _) ⟨⟨v,hz''⟩,kD h1' fun o=>(sb.2 _ (aj (i:=0) rfl)).trans⟩ (fun a o nf e=>(sb.2 a fun z=>nf (.inr z)).trans (kp a o (fun z=>nf (.inr z)) (fun z=>nf (.inl z)) e))
   fun M' al mb ks=>.tup (vs:=[.int k s.toks,v]) ⟨0,(sb.2 _ nS).trans hp'⟩ (fun q=>by have:=al _ q;rw [az] at this;cases this) (.cons (.int _ _) (.cons (dv.kseqM ks (fun _ _ e=>e) mb) .nil))
 ·obtain ⟨x,hz⟩:=st.z;obtain ⟨j1,e1⟩:=p1;exact wpAny_pyNext_enum_end hh hz st.a (Heap.PlainList.isList ⟨j1,hs l1 _ _ _ n1 e1 rfl⟩) (List.getElem?_toArray.trans (dl1.none_at (ti hk))) fun h' kp=>
   hQ h' s.toks (Nat.le_refl _) fun a o nf e=>kp a o (fun z=>nf (.inl z)) e
theorem wy (hW:Wok W T) (hx:Glb W env "enumerate" (.type "enumerate")) (h1:EVP W T n env μ eI (.list ds)) (ht:tgt = .Tuple tes tj tp)
  (hs:autoParam (starEach [eI] env = [(false,eval eI env)]) rfT):ITR W T n env μ (.Call (.Name "enumerate" np) [eI] [] pos) tgt (gM ds):=by
 refine .of ?_;intro A s vm O M r k F V Q E q;refine Call_Name1 (bT hW k.gd F hx ?_) hs
 refine aO rfl rfl (Calls.evalArgs_plain (Calls.spliced_cons (h1.run A s vm O M r k F V _ _ fun v hJ tJ lB sB dA=>Calls.spliced_nil ?_)))
 induction dA using lE with
 | list p1 n1 dl1=>
 rename_i a1 vs;refine call_enumerate_list p1.isList fun h' hz hi1 hsz kp=>?_
 have kp:∀ c o,hJ.get? c = some o->h'.get? c = some o:=kp;have st:Stp W T hJ h':=.of hW sB.gd kp;have n5:∀ a,Two hJ.objs.size a->hJ.get? a = none:=fun a f=>Heap.get?_none_of_le f.le
 have mm:∀ a,(M a \/ Two hJ.objs.size a)->(hJ.get? a).isSome->M a:=fun a m hs=>m.elim id fun f=>by rw [n5 a f] at hs;cases hs
 have p1':=p1;obtain ⟨j1,q1⟩:=p1';refine wpAny_pyIter_enum hz (q (.ref (hJ.objs.size + 1)) (Two hJ.objs.size) _ h' tJ lB (sB.trans st) (fun a f=>⟨eY sB (n5 a f),jF sB.gd (n5 a f),Nat.le_trans sB.gd.size f.le⟩) ?_
  (wY hW r.handled (fun a f=>.inr f) (fun m=>n1 (mm _ m (by rw [q1];rfl))) sB.gd.size ⟨j1,kp _ _ q1⟩ (dl1.step sB.gd st.kp (fun _ _ e=>e) mm) ht))
 exact ⟨0,⟨⟨_,hz⟩,hi1⟩,rfl,fun a o xs j _ e _=>e⟩
theorem TST.le {m:Nat} (h:TST W T n env μ e b) (hm:n <= m):TST W T m env μ e b:=
 .of fun A s vm O M r k F V Q E q=>h.run A s vm O M (r.le hm) k F V Q E q
theorem ny {x:Expr} (h:TST W T n env μ x b):TST W T n env μ (.UnaryOp .Not x pos) (!b):=
 .of fun A s vm O M r k F V _ E q=>isTrue_not (h.run A s vm O M r k F V _ E fun h' tk le st=>q h' tk le st)
theorem ci:TST W T n env μ (.BoolOp .And [] pos) true:=.of fun _ s _ _ _ _ k _ _ _ _ q=>isTrue_and_nil (q s.heap s.toks (Nat.le_refl _) (.refl k.gd))
theorem jw:TST W T n env μ (.BoolOp .Or [] pos) false:=.of fun _ s _ _ _ _ k _ _ _ _ q=>isTrue_or_nil (q s.heap s.toks (Nat.le_refl _) (.refl k.gd))
theorem aR {x:Expr} {rest:List Expr} {c:Bool} (h:TST W T n env μ x b) (h2:b = true->TST W T n env μ (.BoolOp .And rest pos) c):TST W T n env μ (.BoolOp .And (x :: rest) pos) (b && c):=by
 refine .of ?_;intro A s vm O M r k F V Q E q;refine isTrue_and (h.run A s vm O M r k F V _ E fun h1a tA lA sI=>?_)
 cases b with
 | false=>exact q h1a tA lA sI
 | true=>exact (h2 rfl).run A _ vm O M r (k.step lA sI) (F.step k.gd sI.kp) (V.st k.gd sI.kp) Q E fun hJ tJ lB sB=>q hJ tJ (Nat.le_trans lA lB) (sI.trans sB)
theorem iV {x:Expr} {rest:List Expr} {c:Bool} (h:TST W T n env μ x b) (h2:b = false->TST W T n env μ (.BoolOp .Or rest pos) c):TST W T n env μ (.BoolOp .Or (x :: rest) pos) (b || c):=by
 refine .of ?_;intro A s vm O M r k F V Q E q;refine isTrue_or (h.run A s vm O M r k F V _ E fun h1a tA lA sI=>?_)
 cases b with
 | true=>exact q h1a tA lA sI
 | false=>exact (h2 rfl).run A _ vm O M r (k.step lA sI) (F.step k.gd sI.kp) (V.st k.gd sI.kp) Q E fun hJ tJ lB sB=>q hJ tJ (Nat.le_trans lA lB) (sI.trans sB)
theorem jt (h:EVP W T n env μ e (.bool b)) (he:autoParam (∀ whole,isTrue e env whole = (do let v <- whole;standAt e.pos;holding [v] (truthy v))) r1T):TST W T n env μ e b:=by
 refine .of ?_;intro A s vm O M r k F V Q E q;refine isTrue_plain (h.run A s vm O M r k F V _ E fun v h1a tA lA sI dA=>?_) (he _)
 induction dA using bE;exact wpAny_truthy_bool (q h1a tA lA sI)
theorem v9 {body orelse:Expr} (ht:TST W T n env μ test b) (h1:b = true->EVP W T n env μ body d) (h2:b = false->EVP W T n env μ orelse d):EVP W T n env μ (.IfExp test body orelse pos) d:=by
 refine .of ?_;intro A s vm O M r k F V Q E q;refine wpAny_IfExp (ht.run A s vm O M r k F V _ E fun h1a tA lA sI=>?_)
 have go:∀ e:Expr,EVP W T n env μ e d->wpAny (model W.prog W.w) A (eval e env) Q E { s with heap:=h1a,toks:=tA }:=fun e he=>
  he.run A _ vm O M r (k.step lA sI) (F.step k.gd sI.kp) (V.st k.gd sI.kp) Q E fun v hJ tJ lB sB dB=>q v hJ tJ (Nat.le_trans lA lB) (sI.trans sB) dB
 cases b with
 | true=>exact go _ (h1 rfl)
 | false=>exact go _ (h2 rfl)
theorem qh {x:Expr} {a:Int} (h:EVP W T n env μ x (.int a)):EVP W T n env μ (.UnaryOp .USub x pos) (.int (-a)):=by
 refine .of ?_;intro A s vm O M r k F V Q E q;refine wpAny_UnaryOp (h.run A s vm O M r k F V _ E fun v h1a tA lA sI dA=>?_)
 induction dA using iE;exact PyProof.Rows.neg_int (q _ h1a _ (Nat.le_trans lA (le_succ _)) sI (.int _ _))
theorem dM {a:D}:CMP W T .Is a .none (match a with | .none=>true | _=>false):=by
 refine .of ?_;intro A s O M x y _ _ k dx dy Q E hQ;induction dy using nE;refine is_none_gen ?_
 have q:=hQ s.heap _ (Nat.le_refl _) (.refl k.gd);cases dx <;> exact q
theorem Den.ty_list {s:Shared} {O:List Addr} {M:Addr->Prop} {v:Value} {ds:List D} (d:Den s.heap O M v (.list ds)):s.TypeIs v "list" /\ ∀ a,v = .ref a->∃ ob,s.heap.get? a = some ob /\ ob.dict = Option.none:=by
 induction d using lE with
 | list pl nm dl=>
 refine ⟨pl.isList.typeIs,fun a e=>?_⟩
 cases e;obtain ⟨j,e⟩:=pl;exact ⟨_,e,rfl⟩
theorem Den.ty_str {s:Shared} {O:List Addr} {M:Addr->Prop} {v:Value} {x:Str} (d:Den s.heap O M v (.str x)):s.TypeIs v "str" /\ ∀ a,v = .ref a->∃ ob,s.heap.get? a = some ob /\ ob.dict = Option.none:=by
 cases d with
 | str _ t=>exact ⟨typeIs_str _ _ _,fun a e=>by cases e⟩
theorem fk {ob e:Expr} {name:Str} {apos pos:Pos} {ty id:String} {dO dA d:D} (ho:EVP W T n env μ ob dO) (he:EVP W T n env μ e dA) (hf:FP W T n (.builtin id) [dO,dA] d) (pa:PlainAttrs ty) (slot:Slot ty name id)
  (hty:typeOf (.builtin id) = pure (.type "method_descriptor")) (hT:∀ (s:Shared) O M v,Den s.heap O M v dO->s.TypeIs v ty /\ ∀ a,v = .ref a->∃ ob,s.heap.get? a = some ob /\ ob.dict = none)
  (hbase:autoParam (attributeBase ob name env (eval ob env) = eval ob env) rfT) (hline:autoParam ((apos.endLine == pos.line) = true) rfT) (hs:autoParam (starEach [e] env = [(false,eval e env)]) rfT) :
  EVP W T n env μ (.Call (.Attribute ob name apos) [e] [] pos) d:=by
 refine .of ?_;intro A s vm O M r k F V Q E q;refine Call_method1 hbase hs hline (ho.run A s vm O M r k F V _ _ fun v h1a tA lA sI xA=>?_)
 obtain ⟨hT1,hT2⟩:=hT { s with heap:=h1a,toks:=tA } O M v xA
 refine ⟨ty,id,pa,slot,hty,hT1,hT2,?_⟩
 have kI:=k.step lA sI;refine aO rfl rfl (Calls.evalArgs_plain (Calls.spliced_cons (he.run A _ vm O M r kI (F.step k.gd sI.kp) (V.st k.gd sI.kp) _ _ fun u hJ tJ lB sB x2=>Calls.spliced_nil ?_)))
 exact hf.run A _ O M [v,u] r (kI.step lB sB) (.cons (xA.st sI.gd sB.kp) (.cons x2 .nil)) Q E fun v h3a tC l3 sC xC=>q v h3a tC (Nat.le_trans lA (Nat.le_trans lB l3)) (sI.trans (sB.trans sC)) xC
theorem am.readMap (dl:am h O M vs ds) (hb:cU (.list ds)):vs.map (SeqAt.readOf h) = ds.map D.py:=by
 obtain ⟨as,ra⟩:=dl.reads (by have:=hb.nr;rw [D.nr] at this;exact this)
 have:=SeqAt.readsAll_map _ _ _ (by have:=hb.lay;rw [D.py,PyData.canLay0] at this;exact this) ra
 rw [this,D.pyL_map]
theorem nW {x:Value} {a:D} (dl:am s.heap O M vs ds) (hb:cU (.list ds)) (dx:Den s.heap O M x a) (ha:cU a) (hu:A.units + 40 < cLine) :
  ∀ y,y ∈ vs.toArray->SeqAt.EqAt A.in1 s y x (PyData.eqv (SeqAt.readOf s.heap y) a.py):=by
 obtain ⟨as,ra⟩:=dl.reads (by have:=hb.nr;rw [D.nr] at this;exact this)
 obtain ⟨bs,rb⟩:=dx.reads ha.nr;exact SeqAt.items_eqAt (vs:=vs.toArray) (by simpa using ra) rb (by have:=hb.lay;rw [D.py,PyData.canLay0] at this;exact this) ha.lay (by have:=ha.dep;omega)
theorem aL.u (r:aL n A):A.units + 40 < cLine:=by have:=r.units;omega
theorem oN {a:D} (hb:cU (.list ds)) (ha:cU a):FP W T n (.builtin "list.count") [.list ds,a] (.int (ds.countP fun y=>y.eqv a:Nat)):=by
 refine .of ?_;intro A s O M vals r k dl Q E q
 induction dl using kE with
 | cons d1 dl=>
 induction dl using kE with
 | cons d2 dl=>
 induction dl using qE
 induction d1 using lE with
 | list pl nm dl=>
 rename_i _ _ x _ ax vs;obtain ⟨j,e⟩:=pl;refine call_meets F.slot_list_count (Heap.PlainList.isList ⟨j,e⟩).typeIs F.entry_list_count (F.args_list_count_2 _ _) (SeqAt.list_countAt ax vs.toArray j none #[] x _) ⟨e,nW dl hb d2 ha r.u,?_⟩
 have ec:vs.countP (fun y=>PyData.eqv (SeqAt.readOf s.heap y) a.py) = ds.countP (fun y=>y.eqv a):=by
  have h1:=congrArg (List.countP fun y=>PyData.eqv y a.py) (dl.readMap hb)
  rw [List.countP_map,List.countP_map] at h1;exact h1
 show Q _ _;rw [show vs.toArray.toList = vs from rfl,ec]
 exact q _ s.heap _ (le_succ _) (.refl k.gd) (.int _ _)
theorem gD {a:D} (hb:cU (.list ds)) (ha:cU a) (hj:ds.findIdx? (fun y=>y.eqv a) = some j) (hl:ds.length <= 100000):FP W T n (.builtin "list.index") [.list ds,a] (.int j):=by
 refine .of ?_;intro A s O M vals r k dl Q E q
 induction dl using kE with
 | cons d1 dl=>
 induction dl using kE with
 | cons d2 dl=>
 induction dl using qE
 induction d1 using lE with
 | list pl nm dl=>
 rename_i _ _ x _ ax vs;obtain ⟨i,e⟩:=pl;have hlen:=dl.length;obtain ⟨hlt,hit,hno⟩:=List.findIdx?_eq_some_iff_getElem.mp hj;have rm:=dl.readMap hb;have at':∀ m (h1:m < vs.length) (h2:m < ds.length),SeqAt.readOf s.heap vs[m] = ds[m].py:=fun m h1 h2=>by
  have:=congrArg (fun l=>l[m]?) rm
  simpa [h1,h2] using this
 refine call_meets F.slot_list_index (Heap.PlainList.isList ⟨i,e⟩).typeIs F.entry_list_index (F.args_list_index_2 _ _) (SeqAt.list_indexAt ax vs.toArray i none #[] x (fun y=>PyData.eqv (SeqAt.readOf s.heap y) a.py) j (by simpa [hlen] using hlt) (by omega) ?_ ?_) ⟨e,nW dl hb d2 ha r.u,?_⟩
 ·have h1:j < vs.length:=by omega
  simp only [List.getElem_toArray];rw [at' j h1 hlt];exact hit
 ·intro m hm hmj;have h1:m < vs.length:=by simpa using hm
  simp only [List.getElem_toArray];rw [at' m h1 (by omega)]
  have:=hno m hmj;simpa [D.eqv] using this
 ·exact q _ s.heap _ (le_succ _) (.refl k.gd) (.int _ _)
theorem qH {x:Str} {rest:List Nat} (h:Builtin.Str.occurrences x y 0 x.length 1 = i :: rest):FP W T n (.builtin "str.index") [.str x,.str y] (.int i):=by
 refine .of ?_;intro A s O M vals r k dl Q E q
 induction dl using kE with
 | cons d1 dl=>
 induction dl using kE with
 | cons d2 dl=>
 induction dl using qE;induction d1 using sE;induction d2 using sE;exact SC.index h (q _ s.heap _ (le_succ _) (.refl k.gd) (.int _ _))
theorem cf (h:ds.length <= 1000000):FP W T n (.builtin "len") [.list ds] (.int ds.length):=by
 refine .of ?_;intro A s O M vals r k dl Q E q
 induction dl using kE with
 | cons d1 dl=>
 induction dl using qE
 induction d1 using lE with
 | list pl nm dl=>
 have hl:=dl.length;refine Calls.call_len_list pl.isList (by simp [hl];omega) ?_
 have:=q _ s.heap _ (le_add_right s.toks 2) (.refl k.gd) (.int (ds.length) (s.toks + 1));simpa [hl] using this
theorem mh {l:List Nat} (h:l.length <= 1000000):FP W T n (.builtin "len") [.str (S l)] (.int l.length):=by
 refine .of ?_;intro A s O M vals r k dl Q E q
 induction dl using kE with
 | cons d1 dl=>
 induction dl using qE;induction d1 using sE;refine P.len_str (by rw [ft];omega) ?_
 have:=q _ s.heap _ (le_add_right s.toks 2) (.refl k.gd) (.int (l.length) (s.toks + 1));rw [ft];exact this
theorem yJ {i:Int} (h0:0 <= i) (h1:i <= 1114111):FP W T n (.builtin "chr") [.int i] (.str (S [i.toNat])):=by
 refine .of ?_;intro A s O M vals r k dl Q E q
 induction dl using kE with
 | cons d1 dl=>
 induction dl using qE;induction d1 using iE;exact chr_of_range h0 h1 (q _ s.heap _ (le_succ _) (.refl k.gd) (.str _ _))
theorem yY {c:Nat}:FP W T n (.builtin "ord") [.str (S [c])] (.int c):=by
 refine .of ?_;intro A s O M vals r k dl Q E q
 induction dl using kE with
 | cons d1 dl=>
 induction dl using qE;induction d1 using sE;exact P.ord_of_char (q _ s.heap _ (le_succ _) (.refl k.gd) (.int _ _))
theorem am.ints:∀ {is:List Int} {vs:List Value},am h O M vs (is.map .int)->∃ xs:List (Int × Tok),vs.toArray = intItems xs.toArray /\ xs.map (·.1) = is
 | [],_,.nil=>⟨[],by simp [intItems],rfl⟩
 | i :: is,_,.cons (vs:=vs) d dl=>by
  obtain ⟨xs,e1,e2⟩:=am.ints dl
  induction d using iE with
  | int t=>
  refine ⟨(i,t) :: xs,?_,by simp [e2]⟩
  have e1':=congrArg Array.toList e1;apply Array.toList_inj.mp
  simp [intItems] at e1' ⊢
  exact e1'
theorem kU (xs:List (Int × Tok)):∀ k,k <= xs.length->preSum (numAt xs.toArray) k = ((xs.map (·.1)).take k).sum
 | 0,_=>by simp [preSum]
 | k + 1,h=>by
  have hk:k < xs.length:=h;rw [preSum,kU xs k (le_of_lt hk),List.take_add_one,List.sum_append];simp [numAt,hk]
theorem jY (hW:Wok W T) {is:List Int}:FP W T n (.builtin "sum") [.list (is.map .int)] (.int is.sum):=by
 refine .of ?_;intro A s O M vals r k dl Q E q
 induction dl using kE with
 | cons d1 dl=>
 induction dl using qE
 induction d1 using lE with
 | list pl nm dl=>
 obtain ⟨xs,e1,e2⟩:=dl.ints;rw [e1] at pl;refine wpAny_with_toks (Nat.le_refl s.toks) (sum_intListG r.handled pl.isList fun h' tk t' kp le=>?_)
 have es:preSum (numAt xs.toArray) xs.toArray.size = is.sum:=by
  rw [List.size_toArray,kU xs _ (Nat.le_refl _),List.take_of_length_le (by simp),e2]
 rw [es];exact q _ h' tk le (.of hW k.gd kp) (.int _ _)
theorem kR (f:Nat->Int):∀ k,argBest (fun i j=>decide (f i > f j)) k <= k /\ ∀ i,i <= k->f i <= f (argBest (fun i j=>decide (f i > f j)) k)
 | 0=>⟨Nat.le_refl _,fun i hi=>by
  have:i = 0:=by omega
  subst this;exact Int.le_refl _⟩
 | k + 1=>by
  obtain ⟨h1,h2⟩:=kR f k;unfold argBest;by_cases h:f (k + 1) > f (argBest (fun i j=>decide (f i > f j)) k)
  ·rw [if_pos (decide_eq_true h)];refine ⟨Nat.le_refl _,fun i hi=>?_⟩
   rcases lt_or_ge k i with q | q
   ·have:i = k + 1:=by omega
    subst this;exact Int.le_refl _
   ·have:=h2 i q;omega
  ·rw [if_neg (by simpa using h)]
   refine ⟨by omega,fun i hi=>?_⟩
   rcases lt_or_ge k i with q | q
   ·have:i = k + 1:=by omega
    subst this;omega
   ·exact h2 i q
theorem yk (hW:Wok W T) {is:List Int} {m:Int} (hm:m ∈ is) (hx:∀ i ∈ is,i <= m):FP W T n (.builtin "max") [.list (is.map .int)] (.int m):=by
 refine .of ?_;intro A s O M vals r k dl Q E q
 induction dl using kE with
 | cons d1 dl=>
 induction dl using qE
 induction d1 using lE with
 | list pl nm dl=>
 obtain ⟨xs,e1,e2⟩:=dl.ints;rw [e1] at pl;have hne:0 < xs.toArray.size:=by
  have:is ≠ []:=fun z=>by rw [z] at hm;cases hm
  have:=List.length_pos_iff.mpr this;rw [<- e2] at this;simpa using this
 refine wpAny_with_toks (Nat.le_refl s.toks) (max_intList r.handled pl.isList hne fun v h' tk hv kp le=>?_)
 obtain ⟨t,rfl⟩:=intItems_at hv;obtain ⟨b1,b2⟩:=kR (numAt xs.toArray) (xs.toArray.size - 1);have num:∀ i (hi:i < xs.length),numAt xs.toArray i ∈ is:=fun i hi=>by
  rw [<- e2];have:numAt xs.toArray i = xs[i].1:=by simp [numAt,hi]
  rw [this];exact List.mem_map_of_mem (getElem_mem hi)
 have le1:=hx _ (num (argBest (fun i j=>decide (numAt xs.toArray i > numAt xs.toArray j)) (xs.toArray.size - 1)) (by simp at b1 hne ⊢;omega))
 have ge1:m <= numAt xs.toArray (argBest (fun i j=>decide (numAt xs.toArray i > numAt xs.toArray j)) (xs.toArray.size - 1)):=by
  rw [<- e2] at hm;obtain ⟨p,hp,rfl⟩:=List.mem_map.mp hm;obtain ⟨i,hi,rfl⟩:=getElem_of_mem hp;have:=b2 i (by simp;omega)
  simpa [numAt,hi] using this
 have:numAt xs.toArray (argBest (fun i j=>decide (numAt xs.toArray i > numAt xs.toArray j)) (xs.toArray.size - 1)) = m:=by omega
 rw [this];exact q _ h' tk le (.of hW k.gd kp) (.int _ _)
variable {items:Array Value}
theorem oM {k:Int} {t:Tok} {Q:Unit->Shared->Prop} (hl:s.heap.PlainList l items) (h0:0 <= k) (hfit:k < 2 ^ 63) (hn:k < items.size)
  (hQ:∀ h',h'.PlainList l (items.setIfInBounds k.toNat v)->Heap.SameBut l s.heap h'->Q () { s with heap:=h' }):wpAny (model prog w) A (setItem (.ref l) (.int k t) v) Q E s:=by
 obtain ⟨n,ho⟩:=hl;have isl:s.heap.IsList l items:=⟨_,ho,rfl,n,rfl⟩;unfold setItem;try with_reducible refine wpAny_holding ?_
 first | refine wpAny_bind (wpAny_pure ?_) | skip
 refine wpAny_bind (wpAny_sequenceKey isl.typeIs (by decide) ?_)
 refine wpAny_bind (wpAny_callSpecial?_slot (name:=Str.ofString "__setitem__") isl.typeIs slot_list_setitem
  (wpAny_call_entry slot_list_setitem isl.typeIs entry_list_setitem ?_ (args_list_setitem _ _ _)))
 show wpAny _ _ (Builtin.List.listSubscript? (.int k t) >>= _) _ _ s;refine wpAny_bind (wpAny_listSubscript_int (fitsIndex_of h0 hfit) ?_)
 clear hfit;obtain ⟨j,rfl⟩:=Int.eq_ofNat_of_zero_le h0;have hn:j < items.size:=by omega
 have hx':items[j]? = some items[j]:=Array.getElem?_eq_getElem hn;show wpAny _ _ ((seqItemAt l j >>= fun r=>pure (r.map (j,·))) >>= _) _ _ s
 refine wpAny_bind (wpAny_bind (wpAny_seqItemAt ho rfl (wpAny_pure ?_)))
 rw [hx'];show wpAny _ _ (setSeqItemAt l j v >>= _) _ _ s;have hfin:(s.heap.update l (Obj.mapSeq (·.setIfInBounds j v))).PlainList l (items.setIfInBounds j v):=by
  refine ⟨n,?_⟩
  have e:Obj.mapSeq (·.setIfInBounds j v) { cls:=.type "list",data:=.seq items n } = { cls:=.type "list",data:=.seq (items.setIfInBounds j v) n }:=by simp [Obj.mapSeq]
  rw [Heap.get?_update_self _ ho (by rw [e];rfl),e]
 refine wpAny_bind (wpAny_setSeqItemAt ho rfl ?_)
 first
  | exact wpAny_bind (wpAny_pure (wpAny_pure ⟨.none,rfl,wpAny_pure (hQ _ hfin (Heap.SameBut.update ..))⟩))
  | exact wpAny_pure ⟨.none,rfl,wpAny_pure (hQ _ hfin (Heap.SameBut.update ..))⟩
theorem Rp.mset (hW:Wok W T) {a:Addr} {ds':List D} {vs':List Value} (R:Rp W T env M0 μ Θ h vm O) (ha:O[i]? = some a) (hi:Θ[i]? = some (.mlist ds)) (sb:Heap.SameBut a h h')
  (pl:h'.PlainList a vs'.toArray) (dl:am h O (Mx M0 O Θ) vs' ds'):Rp W T env M0 μ (Θ.set i (.mlist ds')) h' vm O /\ Nx W (Fx env) h O Θ h' O (Θ.set i (.mlist ds')):=
 let ⟨R',x⟩:=R.toRpH.mlist hW ha hi sb pl dl
 ⟨R.called R' x,x.wide⟩
theorem fg (hW:Wok W T) {x:Str} (hx:μ x = some (.ref i)) (hi:Θ[i]? = some (.mlist ds)) (hl:ds.length <= 1000000) (he:EVP W T n env μ e d)
  (hk:lx env x = true)
  (hbase:autoParam (attributeBase (.Name x px) "append" env (eval (.Name x px) env) = eval (.Name x px) env) rfT) (hline:autoParam ((apos.endLine == cpos.line) = true) rfT) (hs:autoParam (backTo cpos (starEach [e] env) = [(false,eval e env)]) rfT)
  (hfew:autoParam (((backTo cpos (starEach [e] env)).all (fun x=>!x.1) && (backToKw cpos (keywordEach [] env)).all (fun x=>x.1.isSome) && decide (([e]:List Expr).length + ([]:List Keyword).length + (if ([]:List Keyword).isEmpty then 0 else 1) < 30)) = true) rfT)
  (hin:autoParam (interactive env = false) rfT) (hsw:autoParam (swapsWith (.Call (.Attribute (.Name x px) "append" apos) [e] [] cpos) none pos.line env = pure false) rfT) :
  EX W T n env μ Θ (exec (.Expr (.Call (.Attribute (.Name x px) "append" apos) [e] [] cpos) pos) env) (.nxt μ (Θ.set i (.mlist (ds ++ [d])))):=by
 refine .of ?_;intro A s vm O M0 r t R Q E q;refine wpAny_Expr (wpAny_Call_append hbase hfew hline hs ?_) hin hsw
 refine (aa (n:=n) hx hk).run A s vm O _ r (R.toRpH.ok t) R.fm R.vars _ _ fun v h1a tA lA sI dA=>?_
 have R1:=R.step sI;have t1':0 <= tA:=Nat.le_trans t lA
 induction dA using rE with
 | ref ha=>
 rename_i a;obtain ⟨vs,pl1,_⟩:=R1.obs i a _ ha hi;refine ⟨a,vs.toArray,rfl,?_,he.run A _ vm O _ r (R1.toRpH.ok t1') R1.fm R1.vars _ _ fun u hJ tJ lB sB dB=>?_⟩
 ·obtain ⟨j,e⟩:=pl1;exact ⟨_,j,e,rfl,rfl,rfl⟩
 have R2:=R1.step sB;obtain ⟨vs,pl2,dlB⟩:=R2.obs i a _ ha hi;refine wpAny_list_append_plain pl2 (fun h3a pl3 sb=>?_) (by rw [List.size_toArray,dlB.length,sizeLine_eq];omega)
 have pl3':h3a.PlainList a (vs ++ [u]).toArray:=by simpa using pl3
 obtain ⟨R3,xC⟩:=R2.mset hW ha hi sb pl3' (dlB.append (.cons dB .nil));exact q _ h3a tJ (Nat.le_trans lA lB) ⟨rfl,vm,O,R3,((Nx.of sI).trans (Nx.of sB) R.len).trans xC R.len⟩
theorem am.set (x:am h O M vs ds) (i:Nat) (dv:Den h O M v d):am h O M (vs.set i v) (ds.set i d):=by
 induction ds generalizing vs i with
 | nil=>induction x using qE;exact .nil
 | cons d ds ih=>induction x using kE with
  | cons x y=>cases i with
   | zero=>exact .cons dv y
   | succ i=>exact .cons x (ih y i)
theorem l9 (hW:Wok W T) {x:Str} {tpos:Pos} {ie:Expr} {a b:Int} (hx:μ x = some (.ref i)) (hi:Θ[i]? = some (.mlist ds)) (hv:be Θ μ μv) (hk':EVP W T n env μv ie (.int k)) (hdk:ds[k]? = some (.int a)) (hkl:k < 1000000)
  (he:EVP W T n env μv e (.int b))
  (hk:lx env x = true)
  (hau:autoParam (∀ ov iv new,augStore ie ov iv new = (do holding [new,ov,iv] (setItem ov iv new);release [new,ov,iv] [];pure .next)) r3T) :
  EX W T n env μ Θ (exec (.AugAssign (.Subscript (.Name x px) ie tpos) .Add e pos) env) (.nxt μ (Θ.set i (.mlist (ds.set k (.int (a + b)))))):=by
 refine .of ?_;intro A s vm O M0 r t R Q E q;refine wpAny_AugAssign_Subscript_any ((aa (n:=n) hx hk).run A s vm O _ r (R.toRpH.ok t) R.fm R.vars _ _ fun v h1a tA lA sI dA=>?_) hau
 have R1:=R.step sI;have t1':0 <= tA:=Nat.le_trans t lA
 induction dA using rE with
 | ref ha=>
 rename_i ad;refine hk'.run A _ vm O M0 r (R1.toRpH.ok0 t1') R1.fm (R1.view hv) _ _ fun u hJ tJ lB sB dB=>?_
 have R2:=R1.step sB;have t2':0 <= tJ:=Nat.le_trans t1' lB
 induction dB using iE with
 | int tu=>
 obtain ⟨vs,pl2,dlB⟩:=R2.obs i ad _ ha hi;obtain ⟨old,ho,dold⟩:=dlB.get k _ hdk;have hkv:k < vs.length:=(List.getElem?_eq_some_iff.mp ho).1;refine wpAny_getItem_list pl2.isList (Int.natCast_nonneg k) (by omega) (by simpa using ho) ?_
 induction dold using iE with
 | int to=>
 refine he.run A _ vm O M0 r (R2.toRpH.ok0 t2') R2.fm (R2.view hv) _ _ fun v h3a tC l3 sC d3=>?_
 have R3:=R2.step sC
 induction d3 using iE with
 | int tv=>
 refine PyProof.Rows.iadd_int ?_
 obtain ⟨vs,pl3,dl3⟩:=R3.obs i ad _ ha hi;have hkv:k < vs.length:=by
  rw [dl3.length];exact (List.getElem?_eq_some_iff.mp hdk).1
 refine oM pl3 (Int.natCast_nonneg k) (by omega) (by simpa using hkv) fun h4a pl4 sb=>?_
 have pl4':h4a.PlainList ad (vs.set k (.int (a + b) tC)).toArray:=by simpa using pl4
 obtain ⟨R4,xD⟩:=R3.mset hW ha hi sb pl4' (dl3.set k (.int (a + b) tC));exact q _ h4a (tC + 1) (Nat.le_trans lA (Nat.le_trans lB (Nat.le_trans l3 (le_succ _)))) ⟨rfl,vm,O,R4,(((Nx.of sI).trans (Nx.of sB) R.len).trans (Nx.of sC) R.len).trans xD R.len⟩
theorem am.take (x:am h O M vs ds) (k:Nat):am h O M (vs.take k) (ds.take k):=by
 induction ds generalizing vs k with
 | nil=>induction x using qE;rw [List.take_nil,List.take_nil];exact .nil
 | cons d ds ih=>induction x using kE with
  | cons x y=>cases k with
   | zero=>exact .nil
   | succ k=>exact .cons x (ih y k)
theorem am.drop (x:am h O M vs ds) (k:Nat):am h O M (vs.drop k) (ds.drop k):=by
 induction ds generalizing vs k with
 | nil=>induction x using qE;rw [List.drop_nil,List.drop_nil];exact .nil
 | cons d ds ih=>induction x using kE with
  | cons x y=>cases k with
   | zero=>exact .cons x y
   | succ k=>exact ih y k
theorem jn (hW:Wok W T) {vl vu:Value} (g:Gd W T h) (nM:∀ a,M a->(h.get? a).isSome) (dl:am h O M ws es) :
  Stp W T h ((h.push { cls:=.type "slice",data:=.fields #[vl,vu,.none] }).push { cls:=.type "list",data:=.seq ws.toArray }) /\
  Den ((h.push { cls:=.type "slice",data:=.fields #[vl,vu,.none] }).push { cls:=.type "list",data:=.seq ws.toArray }) O M (.ref (h.objs.size + 1)) (.list es):=by
 have kp:∀ a o,h.get? a = some o->((h.push { cls:=.type "slice",data:=.fields #[vl,vu,.none] }).push { cls:=.type "list",data:=.seq ws.toArray }).get? a = some o:=fun a o e=>Heap.get?_push_of_some _ (Heap.get?_push_of_some _ e)
 have st:Stp W T h _:=.of hW g kp;have e1:=Heap.get?_push_size (h.push { cls:=.type "slice",data:=.fields #[vl,vu,.none] }) (o:={ cls:=.type "list",data:=.seq ws.toArray }) rfl;rw [Heap.size_push] at e1;refine ⟨st,.list ⟨0,e1⟩ (fun m=>?_) (dl.st g st.kp)⟩
 obtain ⟨ob,e⟩:=Option.isSome_iff_exists.mp (nM _ m);exact absurd (Heap.lt_size e) (Nat.not_lt.mpr (le_succ _))
theorem w6 (hW:Wok W T) {b:Nat} (hv:EVP W T n env μ value (.list ds)) (hb:EVP W T n env μ e (.int b)) (hl:ds.length <= 1000000) (ht:autoParam (∀ o r,letTemporaryGo value o r = pure ()) r2T) :
  EVP W T n env μ (.Subscript value (.Slice none (some e) none p) pos) (.list (ds.take b)):=by
 refine .of ?_;intro A s vm O M r k F V Q E q;refine wpAny_Subscript_list_slice (hv.run A s vm O M r k F V _ _ fun v h1a tA lA sI dA=>wpAny_pure (hb.run A _ vm O M r (k.step lA sI) (F.step k.gd sI.kp) (V.st k.gd sI.kp) _ _ fun u hJ tJ lB sB dB=>?_)) ht
 have dA:=dA.st sI.gd sB.kp
 induction dA using lE with
 | list pl nm dl=>
 induction dB using iE with
 | int tu=>
 rename_i ax vs;have kJ:=(k.step lA sI).step lB sB;obtain ⟨st,dn⟩:=jn hW (vl:=.none) (vu:=.int b tu) sB.gd (fun a m=>(kJ.live a m).2) (dl.take b)
 refine ⟨ax,vs.toArray,none,some (b:Int),rfl,pl.isList,by rw [List.size_toArray,dl.length,sizeLine_eq];omega,.none,.int _ _,?_⟩
 rw [slicePick_upto'];exact q _ _ tJ (Nat.le_trans lA lB) (sI.trans (sB.trans st)) dn
theorem rx (hW:Wok W T) {b:Nat} (hv:EVP W T n env μ value (.list ds)) (hb:EVP W T n env μ e (.int b)) (hl:ds.length <= 1000000) (ht:autoParam (∀ o r,letTemporaryGo value o r = pure ()) r2T) :
  EVP W T n env μ (.Subscript value (.Slice (some e) none none p) pos) (.list (ds.drop b)):=by
 refine .of ?_;intro A s vm O M r k F V Q E q;refine wpAny_Subscript_list_slice (hv.run A s vm O M r k F V _ _ fun v h1a tA lA sI dA=>hb.run A _ vm O M r (k.step lA sI) (F.step k.gd sI.kp) (V.st k.gd sI.kp) _ _ fun u hJ tJ lB sB dB=>wpAny_pure ?_) ht
 have dA:=dA.st sI.gd sB.kp
 induction dA using lE with
 | list pl nm dl=>
 induction dB using iE with
 | int tu=>
 rename_i ax vs;have kJ:=(k.step lA sI).step lB sB;obtain ⟨st,dn⟩:=jn hW (vl:=.int b tu) (vu:=.none) sB.gd (fun a m=>(kJ.live a m).2) (dl.drop b)
 refine ⟨ax,vs.toArray,some (b:Int),none,rfl,pl.isList,by rw [List.size_toArray,dl.length,sizeLine_eq];omega,.int _ _,.none,?_⟩
 rw [slicePick_from'];exact q _ _ tJ (Nat.le_trans lA lB) (sI.trans (sB.trans st)) dn
theorem rK (a b len:Nat):Builtin.Str.strSliceIndices (some (a:Int)) (some (b:Int)) 1 len = sliceRange (max 0 (min (a:Int) (len:Int))) (max 0 (min (b:Int) (len:Int))) 1:=rfl
theorem pP (a len:Nat):max 0 (min (a:Int) (len:Int)) = max 0 (min ((min a len:Nat):Int) (len:Int)):=by
 rcases Nat.le_total a len with h | h
 ·rw [Nat.min_eq_left h]
 ·rw [Nat.min_eq_right h,Int.min_eq_right (Int.ofNat_le.mpr h),Int.min_self]
theorem mH (l:List Nat) (a b:Nat) (hab:a <= b):Txt.slice (S l) (some (a:Int)) (some (b:Int)) = S ((l.drop a).take (b - a)):=by
 have e0:(l.drop (min a l.length)).take (min b l.length - min a l.length) = (l.drop a).take (b - a):=by
  rw [<- List.drop_take,<- List.take_eq_take_min,<- List.drop_take];rcases Nat.le_total a l.length with h | h
  ·rw [Nat.min_eq_left h]
  ·have z:(l.take b).length <= l.length:=List.length_take_le' _ _;rw [Nat.min_eq_right h,drop_of_length_le z,drop_of_length_le (Nat.le_trans z h)]
 have ei:=(rK a b l.length).trans ((congr (congrArg (fun x y=>sliceRange x y 1) (pP a _)) (pP b _)).trans (rK (min a l.length) (min b l.length) l.length).symm)
 have h2:min b l.length <= l.length:=Nat.min_le_right _ _;have h1:min a l.length <= min b l.length:=Nat.le_min.mpr ⟨Nat.le_trans (Nat.min_le_left _ _) hab,Nat.min_le_right _ _⟩;rw [<- e0];generalize min a l.length = x at *;generalize min b l.length = y at *;have hp:=StrLaws.sliced_plain (S l) h1 h2;unfold Txt.slice;rw [ft,ei];rw [ft] at hp;split
 ·rename_i hc;have hc:=eq_of_beq hc;rw [StrLaws.strSliceIndices_plain h1 h2,length_map,length_range] at hc;have:(l.drop x).take (y - x) = l:=((List.take_sublist _ _).trans (List.drop_sublist _ _)).eq_of_length (by rw [length_take,length_drop,Nat.min_eq_left (Nat.sub_le_sub_right h2 x),hc])
  rw [this]
 ·rw [hp,zb]
theorem mz (l:List Nat) (b:Nat):Txt.slice (S l) none (some (b:Int)) = S (l.take b):=by
 have:=mH l 0 b (zero_le _);have e:Txt.slice (S l) none (some (b:Int)) = Txt.slice (S l) (some ((0:Nat):Int)) (some (b:Int)):=by
  unfold Txt.slice;rw [StrLaws.sliceIdx_none_lo];rfl
 rw [e,this];simp
theorem iG (hW:Wok W T) {l:List Nat} {b:Nat} (hv:EVP W T n env μ value (.str (S l))) (hb:EVP W T n env μ e (.int b)) (hl:l.length <= 1000000) (ht:autoParam (∀ o r,letTemporaryGo value o r = pure ()) r2T) :
  EVP W T n env μ (.Subscript value (.Slice none (some e) none p) pos) (.str (S (l.take b))):=by
 refine .of ?_;intro A s vm O M r k F V Q E q;refine wpAny_Subscript_Slice (T := "str") PySem.F.slot_str_getitem.lookup (hv.run A s vm O M r k F V _ _ fun v h1a tA lA sI dA=>wpAny_Slice (wpAny_pure (hb.run A _ vm O M r (k.step lA sI) (F.step k.gd sI.kp) (V.st k.gd sI.kp) _ _ fun u hJ tJ lB sB dB=>wpAny_pure ?_))) ht
 induction dA using sE with
 | str tv=>
 induction dB using iE with
 | int tu=>
 have kp:∀ a o,hJ.get? a = some o->(hJ.push { cls:=.type "slice",data:=.fields #[.none,.int b tu,.none] }).get? a = some o:=fun a o e=>Heap.get?_push_of_some _ e
 have st:Stp W T hJ _:=.of hW sB.gd kp;refine ⟨typeIs_str _ _ _,wpAny_with_toks (n:=s.toks) (Nat.le_trans lA lB) (wpAny_getItem_str_slice (l:=none) (u:=some ((b:Int),tu)) (st:=none) ⟨_,Heap.get?_push_size _ rfl,rfl,rfl⟩ rfl (post_val_or_str ⟨Nat.le_trans (Txt.slice_le (S l) none (some (b:Int))) (by rw [ft,sizeLine_eq];omega),fun t' kk=>?_⟩))⟩
 show _->Q (.str (Txt.slice (S l) none (some (b:Int))) t') _;rw [mz];exact fun le=>q _ _ kk le (sI.trans (sB.trans st)) (.str _ _)
theorem mZ (hW:Wok W T) {l:List Nat} {a b:Nat} (hv:EVP W T n env μ value (.str (S l))) (ha:EVP W T n env μ eI (.int a)) (hb:EVP W T n env μ eJ (.int b)) (hab:a <= b) (hl:l.length <= 1000000) (ht:autoParam (∀ o r,letTemporaryGo value o r = pure ()) r2T) :
  EVP W T n env μ (.Subscript value (.Slice (some eI) (some eJ) none p) pos) (.str (S ((l.drop a).take (b - a)))):=by
 refine .of ?_;intro A s vm O M r k F V Q E q;refine wpAny_Subscript_Slice (T := "str") PySem.F.slot_str_getitem.lookup (hv.run A s vm O M r k F V _ _ fun v h1a tA lA sI dA=>wpAny_Slice (ha.run A _ vm O M r (k.step lA sI) (F.step k.gd sI.kp) (V.st k.gd sI.kp) _ _ fun w h3a tC l3 sC d3=>?_)) ht
 have kC:=(k.step lA sI).step l3 sC;have s13:=sI.trans sC;refine hb.run A _ vm O M r kC (F.step k.gd s13.kp) (V.st k.gd s13.kp) _ _ fun u hJ tJ lB sB dB=>wpAny_pure ?_
 induction dA using sE with
 | str tv=>
 induction d3 using iE with
 | int tw=>
 induction dB using iE with
 | int tu=>
 have kp:∀ x o,hJ.get? x = some o->(hJ.push { cls:=.type "slice",data:=.fields #[.int a tw,.int b tu,.none] }).get? x = some o:=fun a o e=>Heap.get?_push_of_some _ e
 have st:Stp W T hJ _:=.of hW sB.gd kp;refine ⟨typeIs_str _ _ _,wpAny_with_toks (n:=s.toks) (Nat.le_trans lA (Nat.le_trans l3 lB)) (wpAny_getItem_str_slice (l:=some ((a:Int),tw)) (u:=some ((b:Int),tu)) (st:=none) ⟨_,Heap.get?_push_size _ rfl,rfl,rfl⟩ rfl (post_val_or_str ⟨Nat.le_trans (Txt.slice_le (S l) (some (a:Int)) (some (b:Int))) (by rw [ft,sizeLine_eq];omega),fun t' kk=>?_⟩))⟩
 show _->Q (.str (Txt.slice (S l) (some (a:Int)) (some (b:Int))) t') _;rw [mH l a b hab];exact fun le=>q _ _ kk le (s13.trans (sB.trans st)) (.str _ _)
variable {d':D}
theorem EX.ret_eq {c:Sem Flow} (h:EX W T n env μ Θ c (.ret d Θ')) (e:d = d'):EX W T n env μ Θ c (.ret d' Θ'):=e ▸ h
theorem EX.eqT {c:Sem Flow} (h:EX W T n env μ Θ c (.nxt μ' Θ')) (e:Θ' = Θ''):EX W T n env μ Θ c (.nxt μ' Θ''):=e ▸ h
theorem EX.preT {c:Sem Flow} (h:EX W T n env μ Θ'' c o) (e:Θ'' = Θ):EX W T n env μ Θ c o:=e ▸ h
theorem TST.eq {b':Bool} (h:TST W T n env μ e b) (hb:b = b'):TST W T n env μ e b':=hb ▸ h
theorem EVP.eq {b b':D} (h:EVP W T n env μ e b) (hb:b = b'):EVP W T n env μ e b':=hb ▸ h
theorem EVF.eq {b b':List D} (h:EVF W T n env μ e b) (hb:b = b'):EVF W T n env μ e b':=hb ▸ h
theorem ITR.eq {b b':List D} (h:ITR W T n env μ e tgt b) (hb:b = b'):ITR W T n env μ e tgt b':=hb ▸ h
theorem FP.eq {f:Value} (h:FP W T n f as d) (e:d = d'):FP W T n f as d':=e ▸ h
theorem EX.le {c:Sem Flow} {m:Nat} (h:EX W T n env μ Θ c o) (hm:n <= m):EX W T m env μ Θ c o:=.of fun A s vm O M0 r t R Q E q=>h.run A s vm O M0 (r.le hm) t R Q E q
theorem bS.refl (μ:Str->Option D):bS μ μ:=fun _ _ e=>e
theorem bS.trans (h:bS μ μ') (h':bS μ' μ''):bS μ μ'':=fun x d e=>h' x d (h x d e)
theorem aJ {x:Str} (h:μ x = none):bS μ (upd μ x d):=fun y e hy=>by
 unfold upd;split
 ·rename_i z;subst z;rw [h] at hy;cases hy
 ·exact hy
theorem e9 {x:Str} {e:D} (h:μ x = none) (h':μ y = none):bS μ (upd (upd μ x d) y e):=fun z f hz=>by
 unfold upd;split
 ·rename_i q;subst q;rw [h'] at hz;cases hz
 ·split
  ·rename_i q;subst q;rw [h] at hz;cases hz
  ·exact hz
theorem nu {ι σ:Type} {tgt:Expr} {body:List Stmt} (g:ι->D) (f:σ->ι->σ) (Θof:σ->List ac) (Inv:σ->Prop):∀ (is:List ι) (st:σ),
  (∀ st i,i ∈ is->Inv st->Inv (f st i) /\ ∃ μ1 μ2,ASG W T n env tgt (g i) μ μ1 /\ EX W T n env μ1 (Θof st) (execs body env) (.nxt μ2 (Θof (f st i))) /\ bS μ μ2)->Inv st->
  LP W T n env tgt body (is.map g) μ (Θof st) (.nxt μ (Θof (is.foldl f st)))
 | [],_,_,_=>.nil
 | i :: is,st,h,hi=>by
  obtain ⟨h1,μ1,μ2,a,e,s⟩:=h st i (.head _) hi;exact .cons a (e.sub s) (nu g f Θof Inv is (f st i) (fun st' j hj=>h st' j (.tail _ hj)) h1)
theorem iO {ι:Type} {Own:Addr->Prop} {tgt:Expr} {ifs:List Expr} {act:Value->Sem Unit} (g:ι->D) (μi:ι->Str->Option D) (p:ι->Bool) (f:ι->List D):∀ (is:List ι),(∀ i,i ∈ is->ASG W T n env tgt (g i) μ (μi i))->(∀ i,i ∈ is->bS μ (μi i))->
  (∀ i,i ∈ is->gV W T n env (μi i) ifs (p i))->(∀ i,i ∈ is->p i = true->ACT .lst W T n Own env (μi i) act (f i))->CLL .lst W T n Own env tgt ifs act (is.map g) μ ((is.filter p).flatMap f)
 | [],_,_,_,_=>.nil
 | i :: is,h1,h2,h3,h4=>by
  have ih:=iO (Own:=Own) (act:=act) g μi p f is (fun j hj=>h1 j (.tail _ hj)) (fun j hj=>h2 j (.tail _ hj)) (fun j hj=>h3 j (.tail _ hj)) (fun j hj=>h4 j (.tail _ hj))
  cases hp:p i with
  | true=>
   rw [List.filter_cons_of_pos hp,flatMap_cons];exact .yes (h1 i (.head _)) (hp ▸ h3 i (.head _)) (h4 i (.head _) hp) (h2 i (.head _)) ih
  | false=>
   rw [List.filter_cons_of_neg (by rw [hp];exact Bool.false_ne_true)]
   exact .no (h1 i (.head _)) (hp ▸ h3 i (.head _)) (h2 i (.head _)) ih
theorem cc (h1:scope.kind = .function) (h2:br scope = true) (h3:(scope.names.all fun q=>(q.2 != .free) || (env.cells.lookup q.1).isSome) = true) (h4:names.all (fI scope) = true):Sc scope env names where
 kind:=h1
 ok:=h2
 free:=fun q hq e=>by
  have:=List.all_eq_true.mp h3 q hq;rw [e] at this;simpa using this
 own:=h4
theorem eH {ι:Type} (f:ι->D):∀ is:List ι,(is.flatMap fun i=>[f i]) = is.map f
 | []=>rfl
 | i :: is=>by rw [flatMap_cons,eH f is];rfl
theorem bW (hW:Wok W T) {ι:Type} {elt tgt iter:Expr} {ifs:List Expr} {scope:Scope} {cpos p:Pos} {is:List ι} {g:ι->D} (μi:ι->Str->Option D) (pd:ι->Bool) (f:ι->D) (hi:ITR W T n env μ iter tgt (is.map g)) (sc:Sc scope env (dK tgt))
  (hf:∀ L it acc,compTurn (.ListComp elt [⟨tgt,iter,ifs,0⟩] scope cpos) 0 it acc (ap scope env L) = cX (.ListComp elt [⟨tgt,iter,ifs,0⟩] scope cpos) 0 p tgt ifs (c7 elt (ap scope env L)) it acc (ap scope env L))
  (ha:∀ L i,i ∈ is->ASG W T n (ap scope env L) tgt (g i) (seen scope μ) (μi i)) (hsub:∀ i,i ∈ is->bS (seen scope μ) (μi i)) (ht:∀ L i,i ∈ is->gV W T n (ap scope env L) (μi i) ifs (pd i))
  (he:∀ L i,i ∈ is->pd i = true->EVP W T n (ap scope env L) (μi i) elt (f i)) (hlen:is.length <= 10000) (hs:autoParam (∀ x,foldedSetIterable iter env x = pure x) r1T) :
  EVF W T n env μ (.ListComp elt [⟨tgt,iter,ifs,0⟩] scope cpos) ((is.filter pd).map f):=by
 refine qa hW hi sc (act:=fun L=>c7 elt (ap scope env L)) hf (fun L=>?_) ?_ hs
 ·have:=iO (W:=W) (T:=T) (n:=n) (Own:=dQ scope env L) (env:=ap scope env L) (act:=c7 elt (ap scope env L)) g μi pd (fun i=>[f i]) is (ha L) hsub (ht L) (fun i hi' hp=>jf hW (he L i hi' hp))
  rw [eH] at this;exact this
 ·rw [length_map];exact Nat.le_trans (length_filter_le _ _) hlen
theorem vR (hW:Wok W T) {ι:Type} {x:Str} {px:Pos} {elt tgt iter:Expr} {ifs:List Expr} {scope:Scope} {cpos p pos:Pos} {is:List ι} {g:ι->D} (μi:ι->Str->Option D) (pd:ι->Bool) (f:ι->D) (hi:ITR W T n env μ iter tgt (is.map g)) (sc:Sc scope env (dK tgt))
  (hf:∀ L it acc,compTurn (.ListComp elt [⟨tgt,iter,ifs,0⟩] scope cpos) 0 it acc (ap scope env L) = cX (.ListComp elt [⟨tgt,iter,ifs,0⟩] scope cpos) 0 p tgt ifs (c7 elt (ap scope env L)) it acc (ap scope env L))
  (ha:∀ L i,i ∈ is->ASG W T n (ap scope env L) tgt (g i) (seen scope μ) (μi i)) (hsub:∀ i,i ∈ is->bS (seen scope μ) (μi i)) (ht:∀ L i,i ∈ is->gV W T n (ap scope env L) (μi i) ifs (pd i))
  (he:∀ L i,i ∈ is->pd i = true->EVP W T n (ap scope env L) (μi i) elt (f i)) (hlen:is.length <= 10000) (hk:Sto env x = true)
  (hsw:autoParam (swapsWith (.ListComp elt [⟨tgt,iter,ifs,0⟩] scope cpos) (some (.Name x px)) pos.line env = pure true) rfT) (hs:autoParam (∀ x,foldedSetIterable iter env x = pure x) r1T) :
  EX W T n env μ Θ (exec (.Assign [.Name x px] (.ListComp elt [⟨tgt,iter,ifs,0⟩] scope cpos) pos) env) (.nxt (upd μ x (.ref Θ.length)) (Θ ++ [.mlist ((is.filter pd).map f)])):=by
 refine md hW hi sc (act:=fun L=>c7 elt (ap scope env L)) hf (fun L=>?_) ?_ hk hsw hs
 ·have:=iO (W:=W) (T:=T) (n:=n) (Own:=dQ scope env L) (env:=ap scope env L) (act:=c7 elt (ap scope env L)) g μi pd (fun i=>[f i]) is (ha L) hsub (ht L) (fun i hi' hp=>jf hW (he L i hi' hp))
  rw [eH] at this;exact this
 ·rw [length_map];exact Nat.le_trans (length_filter_le _ _) hlen
theorem fU (b:Nat):rng 0 b = (List.range b).map fun i=>.int (i:Int):=by
 unfold rng;have:((b:Int) - 0).toNat = b:=by omega
 rw [this];refine map_congr_left fun i _=>?_
 rw [Int.zero_add]
theorem m6 {α β:Type} (g:α->D) (k:β->D):∀ (xs:List α) (ys:List β),fi (xs.map g) (ys.map k) = (xs.zip ys).map fun p=>.tup [g p.1,k p.2]
 | [],_=>rfl
 | _ :: _,[]=>rfl
 | x :: xs,y :: ys=>by
  have:=m6 g k xs ys;unfold fi at this ⊢;simp only [map_cons,List.zipWith_cons_cons,List.zip_cons_cons];rw [this]
theorem vy {α:Type} (g:α->D) (xs:List α):gM (xs.map g) = xs.zipIdx.map fun p=>.tup [.int p.2,g p.1]:=by
 unfold gM;rw [List.zipIdx_map,map_map];rfl
noncomputable abbrev ag (l:List Nat):D:=.str (S l)
noncomputable def fO (l:List Nat):Prop:=∀ c ∈ l,c < 1114112
structure cV (m:Nat) (d:D):Prop where
 nr:d.nr = true
 lay:d.py.canLay0 = true
 dep:d.py.depth <= m
theorem cV.fine {m:Nat} (h:cV m d) (hm:autoParam (m <= 20) deT):cU d:=⟨h.nr,h.lay,Nat.le_trans h.dep hm⟩
theorem cV.le {m:Nat} (h:cV m d) (hm:m <= k):cV k d:=⟨h.nr,h.lay,Nat.le_trans h.dep hm⟩
theorem cu (i:Int):cV 0 (.int i):=⟨rfl,by rw [D.py,PyData.canLay0],by rw [D.py,PyData.depth];exact Nat.le_refl _⟩
theorem a8 {l:List Nat} (h:fO l):cV 0 (ag l):=⟨rfl,by
 rw [D.py,PyData.canLay0];unfold PyData.strOk;rw [<- Array.all_toList,List.all_eq_true];exact fun c hc=>decide_eq_true (h c hc),by rw [D.py,PyData.depth];exact Nat.le_refl _⟩
theorem jS {m:Nat}:∀ {ds:List D},(∀ d ∈ ds,cV m d)->D.nrL ds = true /\ PyData.canLayAll0 (D.pyL ds) = true /\ PyData.depthAll (D.pyL ds) <= m
 | [],_=>⟨rfl,by rw [D.pyL,PyData.canLayAll0],by rw [D.pyL,PyData.depthAll];exact zero_le _⟩
 | d :: ds,h=>by
  obtain ⟨a,b,c⟩:=jS (ds:=ds) fun e he=>h e (.tail _ he)
  have hd:=h d (.head _);refine ⟨by rw [D.nrL,hd.nr,a];rfl,by rw [D.pyL,PyData.canLayAll0,hd.lay,b];rfl,?_⟩
  rw [D.pyL,PyData.depthAll];exact Nat.max_le.mpr ⟨hd.dep,c⟩
theorem bF {m:Nat} (h:∀ d ∈ ds,cV m d):cV (m + 1) (.list ds):=by
 obtain ⟨a,b,c⟩:=jS h;exact ⟨by rw [D.nr];exact a,by rw [D.py,PyData.canLay0];exact b,by rw [D.py,PyData.depth];exact Nat.succ_le_succ c⟩
theorem ig {m:Nat} (h:∀ d ∈ ds,cV m d):cV (m + 1) (.tup ds):=by
 obtain ⟨a,b,c⟩:=jS h;exact ⟨by rw [D.nr];exact a,by rw [D.py,PyData.canLay0];exact b,by rw [D.py,PyData.depth];exact Nat.succ_le_succ c⟩
variable {ts:List (List Nat)}
theorem aH (h:∀ t ∈ ts,fO t):cV 1 (.list (ts.map ag)):=bF fun d hd=>by
 obtain ⟨t,ht,rfl⟩:=List.mem_map.mp hd;exact a8 (h t ht)
theorem fK (a b:List Nat):(ag a).eqv (ag b) = decide (a = b):=by
 unfold D.eqv;rw [D.py,D.py,PyData.eqv];by_cases h:a = b
 ·subst h;simp
 ·rw [decide_eq_false h];exact beq_eq_false_iff_ne.mpr fun q=>h (oY q)
theorem iL (a b:Int):(D.int a).eqv (.int b) = decide (a = b):=by
 unfold D.eqv;rw [D.py,D.py,PyData.eqv];by_cases h:a = b <;> simp [h]
theorem jk {α:Type} [DecidableEq α] (g:α->D) (hg:∀ x y,(g x).eqv (g y) = decide (x = y)):∀ xs ys:List α,PyData.eqvAll (D.pyL (xs.map g)) (D.pyL (ys.map g)) = decide (xs = ys)
 | [],[]=>by simp [D.pyL,PyData.eqvAll]
 | [],_ :: _=>by simp [D.pyL,PyData.eqvAll]
 | _ :: _,[]=>by simp [D.pyL,PyData.eqvAll]
 | x :: xs,y :: ys=>by
  rw [map_cons,map_cons,D.pyL,D.pyL,PyData.eqvAll,jk g hg xs ys];have:=hg x y;unfold D.eqv at this;rw [this];by_cases h:x = y <;> by_cases h':xs = ys <;> simp [h,h']
theorem eX {α:Type} [DecidableEq α] (g:α->D) (hg:∀ x y,(g x).eqv (g y) = decide (x = y)) (xs ys:List α):(D.list (xs.map g)).eqv (.list (ys.map g)) = decide (xs = ys):=by
 unfold D.eqv;rw [D.py,D.py,PyData.eqv];exact jk g hg xs ys
theorem nz {α:Type} [DecidableEq α] (g:α->D) (hg:∀ x y,(g x).eqv (g y) = decide (x = y)) (xs ys:List α):(D.tup (xs.map g)).eqv (.tup (ys.map g)) = decide (xs = ys):=by
 unfold D.eqv;rw [D.py,D.py,PyData.eqv];exact jk g hg xs ys
theorem yb {α:Type} [DecidableEq α] (g:α->D) (hg:∀ x y,(g x).eqv (g y) = decide (x = y)) (xs:List α) (a:α):((xs.map g).any fun y=>y.eqv (g a)) = decide (a ∈ xs):=by
 induction xs with
 | nil=>simp
 | cons x xs ih=>
  rw [map_cons,List.any_cons,ih,hg];by_cases h:x = a
  ·subst h;simp
  ·by_cases h':a ∈ xs
   ·simp [h']
   ·have:¬ a = x:=fun q=>h q.symm
    simp [h,h',this]
theorem eE (ts:List (List Nat)) (t:List Nat):((ts.map ag).any fun y=>y.eqv (ag t)) = decide (t ∈ ts):=(yb ag fK ts t).trans (decide_eq_decide.mpr Iff.rfl)
theorem dW {x:Str} (hx:μ x = some (.ref i)) (hi:Θ[i]? = some (.mlist ds)):be Θ μ (upd μ x (.list ds)):=fun y d e=>by
 unfold upd at e;split at e
 ·rename_i z;subst z;cases e;exact .inr ⟨i,ds,hx,hi,rfl⟩
 ·exact .inl e
theorem ud {x:Str} (hx:μ x = some (.ref i)) (hi:Θ[i]? = some (.mlist ds)) (hy:μ y = some (.ref j)) (hj:Θ[j]? = some (.mlist es)):be Θ μ (upd (upd μ x (.list ds)) y (.list es)):=fun z d e=>by
 unfold upd at e;split at e
 ·rename_i q;subst q;cases e;exact .inr ⟨j,es,hy,hj,rfl⟩
 ·split at e
  ·rename_i q;subst q;cases e;exact .inr ⟨i,ds,hx,hi,rfl⟩
  ·exact .inl e
theorem jW {x:Str} {e:D}:bS (upd μ x e) (upd (upd μ x d) x e):=fun y f hy=>by
 unfold upd at hy ⊢;split at hy
 ·rename_i z;rw [if_pos z];exact hy
 ·rename_i z;rw [if_neg z,if_neg z];exact hy
theorem bx {x:Str} (h:bS μ μ') (hx:μ x = some d \/ μ x = none):bS μ (upd μ' x d):=fun y f hy=>by
 unfold upd;split
 ·rename_i z;subst z;rcases hx with hx | hx
  ·rw [hx] at hy;exact hy
  ·rw [hx] at hy;cases hy
 ·exact h y f hy
theorem lW (hW:Wok W T) {x:Str} {rest:List Comprehension} {act:Addr->Value->Sem Unit} {out:List D} (hi:ITR W T n env μ iter tgt ds) (sc:Sc scope env (dK tgt))
  (hf:∀ L it acc,compTurn (.ListComp elt (⟨tgt,iter,ifs,0⟩ :: rest) scope cpos) 0 it acc (ap scope env L) = cX (.ListComp elt (⟨tgt,iter,ifs,0⟩ :: rest) scope cpos) 0 p tgt ifs (act L) it acc (ap scope env L))
  (hl:∀ L,CLL .lst W T n (dQ scope env L) (ap scope env L) tgt ifs (act L) ds (seen scope μ) out) (hlen:out.length <= 10000) (hk:Sto env x = true)
  (hsw:autoParam (swapsWith (.ListComp elt (⟨tgt,iter,ifs,0⟩ :: rest) scope cpos) (some (.Name x px)) pos.line env = pure true) rfT) (hs:autoParam (∀ x,foldedSetIterable iter env x = pure x) r1T) :
  EX W T n env μ Θ (exec (.Assign [.Name x px] (.ListComp elt (⟨tgt,iter,ifs,0⟩ :: rest) scope cpos) pos) env) (.nxt (upd μ x (.list out)) Θ):=by
 refine .of ?_;intro A s vm O M0 r t R Q E q;rw [exec_Assign_Name_used x px _ pos hsw];refine wpAny_bind (wpAny_standAt (wpAny_bind ?_))
 show wpAny _ A (comprehension (.ListComp elt (⟨tgt,iter,ifs,0⟩ :: rest) scope cpos) scope env _ (newList []) false (eval iter env) (some (assign (.Name x px) env)) >>= fun _=>pure ()) _ E s
 refine wpAny_bind (jL hW hi sc.kind sc.ok sc.free sc.own hf hl hlen hs r (R.toRpH.ok t) R.fm R.vars fun Dd C ys h1a tA lA st dn hD pl dl cn hC hns=>?_)
 obtain ⟨m,hns⟩:=hns;have R1:=R.step st;have xA:Nx W (Fx env) s.heap O Θ h1a O Θ:=.of st;have dn1:Den h1a O (Mx M0 O Θ) (.ref Dd) (.list out):=.list pl (fun m=>by have:=((R.toRpH.ok t).live Dd m).2;rw [dn] at this;cases this) (dl.kseq (.refl _) (fun _ _ e=>e) fun _ m _=>.inl m)
 have nC:∀ b,Fx env b->b ≠ C:=fun b f z=>by obtain ⟨ob,e,_⟩:=R.fm.at_fx f;rw [z,cn] at e;cases e
 refine wpAny_assign_Name (bV R1.fm hk fun b h' tk lB fs sb F'=>?_)
 have fb:Fx env b:=fs.elim (fun q=>.inl q.2) fun q=>.inr ⟨x,q.2⟩
 obtain ⟨R2,x2⟩:=R1.stored hW fb sb F' dn1;have hns2:h'.Ns C m:=hns.sameBut sb (Ne.symm (nC b fb));refine ⟨m,hns2,fun h3a sb3=>wpAny_pure (wpAny_pure ?_)⟩
 have sb3:Heap.SameBut C h' h3a:=sb3;have x12:=xA.trans x2 R.len;have sc:∀ a,(s.heap.get? a).isSome->a ≠ C:=fun a e z=>by rw [z,cn] at e;cases e
 have gone:∀ a,(s.heap.get? a).isSome->h3a.get? a = h'.get? a:=fun a e=>sb3.2 a (sc a e)
 exact q _ h3a tk (Nat.le_trans lA lB) ⟨rfl,_,_,R2.scrap hW hC hns2 (fun f=>nC C f rfl) (fun m=>sc C (R.live C m).2 rfl) (fun ha=>sc C (R.there C ha) rfl) sb3,⟨fun a ob ht nx e=>(gone a (by rw [e];rfl)).trans (x12.kp a ob ht nx e),x12.ext,fun a e=>by rw [gone a e];exact x12.grow a e,x12.later⟩⟩
theorem kg (hW:Wok W T) {ι:Type} {x:Str} {px:Pos} {elt tgt iter:Expr} {ifs:List Expr} {scope:Scope} {cpos p pos:Pos} {is:List ι} {g:ι->D} (μi:ι->Str->Option D) (pd:ι->Bool) (f:ι->D) (hi:ITR W T n env μ iter tgt (is.map g)) (sc:Sc scope env (dK tgt))
  (hf:∀ L it acc,compTurn (.ListComp elt [⟨tgt,iter,ifs,0⟩] scope cpos) 0 it acc (ap scope env L) = cX (.ListComp elt [⟨tgt,iter,ifs,0⟩] scope cpos) 0 p tgt ifs (c7 elt (ap scope env L)) it acc (ap scope env L))
  (ha:∀ L i,i ∈ is->ASG W T n (ap scope env L) tgt (g i) (seen scope μ) (μi i)) (hsub:∀ i,i ∈ is->bS (seen scope μ) (μi i)) (ht:∀ L i,i ∈ is->gV W T n (ap scope env L) (μi i) ifs (pd i))
  (he:∀ L i,i ∈ is->pd i = true->EVP W T n (ap scope env L) (μi i) elt (f i)) (hlen:is.length <= 10000) (hk:Sto env x = true)
  (hsw:autoParam (swapsWith (.ListComp elt [⟨tgt,iter,ifs,0⟩] scope cpos) (some (.Name x px)) pos.line env = pure true) rfT) (hs:autoParam (∀ x,foldedSetIterable iter env x = pure x) r1T) :
  EX W T n env μ Θ (exec (.Assign [.Name x px] (.ListComp elt [⟨tgt,iter,ifs,0⟩] scope cpos) pos) env) (.nxt (upd μ x (.list ((is.filter pd).map f))) Θ):=by
 refine lW hW hi sc (act:=fun L=>c7 elt (ap scope env L)) hf (fun L=>?_) ?_ hk hsw hs
 ·have:=iO (W:=W) (T:=T) (n:=n) (Own:=dQ scope env L) (env:=ap scope env L) (act:=c7 elt (ap scope env L)) g μi pd (fun i=>[f i]) is (ha L) hsub (ht L) (fun i hi' hp=>jf hW (he L i hi' hp))
  rw [eH] at this;exact this
 ·rw [length_map];exact Nat.le_trans (length_filter_le _ _) hlen
theorem vQ (hW:Wok W T) {x:Str} (he:EVP W T n env μ elt (.str x)):ACT .set W T n Own env μ (fun acc=>do let v <- eval elt env;standAt elt.pos;let _ <- call (.builtin "set.add") [acc,v]) [.str x]:=by
 refine .of ?_;intro A s vm O M Dd out0 r t C hl Q E q;refine wpAny_bind (he.run A s vm O M r (C.ok t) C.fm C.vars _ _ fun v h1a tA lA sI dA=>?_)
 have C1:=C.step sI
 induction dA using sE with
 | str tx=>
 refine wpAny_bind (wpAny_standAt ?_)
 obtain ⟨ts,rfl,oA,eI,so1⟩:=C1.acc;have cle:cM ts < 1000:=Nat.lt_of_le_of_lt (qL ts) (by rw [length_map] at hl;exact hl)
 have lim:cM ts + 1 < scanBound:=Nat.lt_of_le_of_lt cle (by unfold scanBound;decide)
 refine wpAny_bind (call_set_add (knd:=PySem.strKind W.prog W.w) (k:=x) (key:=.str x tx) (by simp [PySem.strKind,Value.isStrOf]) rfl (so1.setOf eI (Nat.lt_of_succ_lt lim)) lim fun hJ sb sS=>wpAny_pure ?_)
 obtain ⟨oB,eJ,so2⟩:=sS.objOf;refine q vm hJ (tA + 1) (Nat.le_trans lA (le_succ _)) (C1.grown hW sb (by rw [eJ];rfl) fun _=>⟨ts ++ [x],by rw [map_append];rfl,oB,eJ,?_⟩) fun a ob ht nx e=>(sb.2 a fun q=>nx (.inr q)).trans (sI.kp a ob ht e)
 have eS:(fun k'=>decide (k' ∈ ts) || decide (k' = x)) = fun k'=>decide (k' ∈ ts ++ [x]):=funext fun k'=>by
  rw [<- Bool.decide_or];exact decide_eq_decide.mpr (List.mem_append.trans (or_congr_right List.mem_singleton)).symm
 rw [eS] at so2;rw [r9];by_cases hx:x ∈ ts
 ·simpa [hx] using so2
 ·simpa [hx] using so2
noncomputable abbrev yC (led:Bool):Obj:={ cls:=.type "set",dict:=none,data:=.set #[] 0 (.fresh 0 0 led) }
noncomputable abbrev rM (elt:Expr) (env:Env) (acc:Value):Sem Unit:=do let v <- eval elt env;standAt elt.pos;let _ <- call (.builtin "set.add") [acc,v]
theorem yi {ι:Type} {Own:Addr->Prop} {tgt:Expr} {act:Value->Sem Unit} (g:ι->D) (μi:ι->Str->Option D) (f:ι->Str) (is:List ι) (h1:∀ i,i ∈ is->ASG W T n env tgt (g i) μ (μi i)) (h2:∀ i,i ∈ is->bS μ (μi i))
  (h3:∀ i,i ∈ is->ACT .set W T n Own env (μi i) act [.str (f i)]):CLL .set W T n Own env tgt [] act (is.map g) μ ((is.map f).map .str):=by
 induction is with
 | nil=>exact .nil
 | cons i is ih=>exact .yes (h1 i (.head _)) d9 (h3 i (.head _)) (h2 i (.head _)) (ih (fun j hj=>h1 j (.tail _ hj)) (fun j hj=>h2 j (.tail _ hj)) fun j hj=>h3 j (.tail _ hj))
theorem r5:∀ {l m:List Str},l.map D.str = m.map D.str->l = m
 | [],[],_=>rfl
 | [],_ :: _,e=>nomatch e
 | _ :: _,[],e=>nomatch e
 | _ :: _,_ :: _,e=>congr (congrArg List.cons (D.str.inj (List.cons.inj e).1)) (r5 (List.cons.inj e).2)
theorem te (hW:Wok W T) {ι:Type} {elt tgt iter:Expr} {scope:Scope} {cpos p np pos:Pos} {is:List ι} {g:ι->D} (μi:ι->Str->Option D) (f:ι->Str) (hx:Glb W env "len" (.builtin "len")) (hi:ITR W T n env μ iter tgt (is.map g)) (sc:Sc scope env (dK tgt))
  (hf:∀ L it acc,compTurn (.SetComp elt [⟨tgt,iter,[],0⟩] scope cpos) 0 it acc (ap scope env L) = cX (.SetComp elt [⟨tgt,iter,[],0⟩] scope cpos) 0 p tgt [] (rM elt (ap scope env L)) it acc (ap scope env L))
  (ha:∀ L i,i ∈ is->ASG W T n (ap scope env L) tgt (g i) (seen scope μ) (μi i)) (hsub:∀ i,i ∈ is->bS (seen scope μ) (μi i))
  (he:∀ L i,i ∈ is->EVP W T n (ap scope env L) (μi i) elt (.str (f i))) (hlen:is.length <= 1000) (hs:autoParam (∀ x,foldedSetIterable iter env x = pure x) r1T)
  (hst:autoParam (starEach [.SetComp elt [⟨tgt,iter,[],0⟩] scope cpos] env = [(false,eval (.SetComp elt [⟨tgt,iter,[],0⟩] scope cpos) env)]) rfT) :
  EVP W T n env μ (.Call (.Name "len" np) [.SetComp elt [⟨tgt,iter,[],0⟩] scope cpos] [] pos) (.int (cM (is.map f))):=by
 refine .of ?_;intro A s vm O M r k F V Q E q;refine Call_Name1 (bT hW k.gd F hx ?_) hst
 refine aO rfl rfl (Calls.evalArgs_plain (Calls.spliced_cons ?_))
 show wpAny _ A (comprehension (.SetComp elt [⟨tgt,iter,[],0⟩] scope cpos) scope env _ (newSet (.type "set")) false (eval iter env) none) _ E s;refine p0 hW (g:=.set) (act:=fun L=>rM elt (ap scope env L)) (.set ..) rfl (fun hq=>wpAny_newSet_of (knd:=PySem.strKind W.prog W.w) fun led _=>hq (yC led) (fun _=>Heap.get?_push_size _ rfl) fun _ _ _ _ e=>⟨[],rfl,_,e,by simpa [cM,d7] using setObjOf_fresh (knd:=PySem.strKind W.prog W.w) led⟩) hi sc.kind sc.ok sc.free sc.own hf (fun L=>yi g μi f is (ha L) hsub fun i hi'=>vQ hW (he L i hi')) (by rw [length_map,length_map];exact hlen) hs r k F V fun Dd C h' tk le st dn hD sa cn hC hns=>?_
 obtain ⟨ts,et,sa⟩:=sa;have et:is.map f = ts:=r5 et;subst et;obtain ⟨m,hns⟩:=hns;refine ⟨m,hns,fun hJ sb=>?_⟩
 have sb:Heap.SameBut C h' hJ:=sb;obtain ⟨ob,hob,hex,es,ep,t,hd,hel,hmem,hn,hft⟩:=sa;have ne:Dd ≠ C:=fun z=>by
  obtain ⟨o',es',ep',ho,hd',_⟩:=hns;rw [<- z,hob] at ho;cases ho;rw [hd] at hd';cases hd'
 have hob2:hJ.get? Dd = some ob:=(sb.2 Dd ne).trans hob;have cle:=qL (is.map f);rw [length_map] at cle;refine Calls.spliced_nil (call_len_set (s:={ s with heap:=hJ,toks:=tk }) hob2 hex hd hft (by omega) ?_)
 rw [hn];exact q _ hJ (tk + 2) (Nat.le_trans le (le_add_right _ _)) ⟨fun a o ht e=>(sb.2 a (fun z=>by rw [z,cn] at e;cases e)).trans (st.kp a o ht e),st.gd.same hW hC (wJ hns) sb⟩ (.int _ _)
structure EVM (W:Wd) (T:Heap->Prop) (n:Nat) (env:Env) (μ:Str->Option D) (Θ:List ac) (c:Sem Value) (d:D) (μ':Str->Option D) (Θ':List ac):Prop where
 of ::
 run:∀ (A:Around) (s:Shared) (vm:Str->Option Value) (O:List Addr) (M0:Addr->Prop),aL n A->0 <= s.toks->Rp W T env M0 μ Θ s.heap vm O->
  ∀ (Q E:Value->Shared->Prop),(∀ v h' tk vm' O',s.toks <= tk->Rp W T env M0 μ' Θ' h' vm' O'->Nx W (Fx env) s.heap O Θ h' O' Θ'->Den h' O' (Mx M0 O' Θ') v d->Q v { s with heap:=h',toks:=tk })->wpAny (model W.prog W.w) A c Q E s
theorem ai (h:EVP W T n env μ e d):EVM W T n env μ Θ (eval e env) d μ Θ:=
 .of fun A s vm O M0 r t R Q E q=>h.run A s vm O _ r (R.toRpH.ok t) R.fm R.vars Q E fun v h' tk le st dv=>q v h' tk vm O le (R.step st) (.of st) dv
theorem vp (hv:be Θ μ μv) (h:EVP W T n env μv e d) (ha:d.atom = true):EVM W T n env μ Θ (eval e env) d μ Θ:=
 .of fun A s vm O M0 r t R Q E q=>h.run A s vm O _ r (R.toRpH.ok0 t) R.fm (R.view hv) Q E fun v h' tk le st dv=>q v h' tk vm O le (R.step st) (.of st) (dv.atom ha)
structure TSM (W:Wd) (T:Heap->Prop) (n:Nat) (env:Env) (μ:Str->Option D) (Θ:List ac) (e:Expr) (b:Bool) (μ':Str->Option D) (Θ':List ac):Prop where
 of ::
 run:∀ (A:Around) (s:Shared) (vm:Str->Option Value) (O:List Addr) (M0:Addr->Prop),aL n A->0 <= s.toks->Rp W T env M0 μ Θ s.heap vm O->
  ∀ (Q:Bool->Shared->Prop) (E:Value->Shared->Prop),(∀ h' tk vm' O',s.toks <= tk->Rp W T env M0 μ' Θ' h' vm' O'->Nx W (Fx env) s.heap O Θ h' O' Θ'->Q b { s with heap:=h',toks:=tk })->wpAny (model W.prog W.w) A (isTrue e env (eval e env)) Q E s
theorem fz (hv:be Θ μ μv) (h:TST W T n env μv e b):TSM W T n env μ Θ e b μ Θ:=
 .of fun A s vm O M0 r t R Q E q=>h.run A s vm O _ r (R.toRpH.ok0 t) R.fm (R.view hv) Q E fun h' tk le st=>q h' tk vm O le (R.step st) (.of st)
theorem eM (ht:TSM W T n env μ Θ test b μ' Θ')
  (h1:b = true->EX W T n env μ' Θ' (execs body env) o) (h2:b = false->EX W T n env μ' Θ' (execs orelse env) o):EX W T n env μ Θ (exec (.If test body orelse pos) env) o:=by
 refine .of ?_;intro A s vm O M0 r t R Q E q;refine wpAny_If (ht.run A s vm O M0 r t R _ _ fun h' tk vm' O' le R' x=>?_)
 cases b with
 | true=>exact (h1 rfl).run A _ vm' O' M0 r (Nat.le_trans t le) R' Q E fun f h'' tk' le' p=>q f h'' tk' (Nat.le_trans le le') (p.after R.len x)
 | false=>exact (h2 rfl).run A _ vm' O' M0 r (Nat.le_trans t le) R' Q E fun f h'' tk' le' p=>q f h'' tk' (Nat.le_trans le le') (p.after R.len x)
theorem aT (hW:Wok W T) {x:Str} (he:EVM W T n env μ Θ (eval e env) d μ' Θ') (hk:Sto env x = true) (hs:autoParam (swapsWith e (some (.Name x px)) pos.line env = pure false) rfT) :
  EX W T n env μ Θ (exec (.Assign [.Name x px] e pos) env) (.nxt (upd μ' x d) Θ'):=by
 refine .of ?_;intro A s vm O M0 r t R Q E q;refine wpAny_Assign_Name (he.run A s vm O M0 r t R _ _ fun v h1a tA vm1 O1 lA R1 xA dv=>?_) hs
 refine bV R1.fm hk fun b h' tk lB fs sb F'=>?_
 have fb:Fx env b:=fs.elim (fun q=>.inl q.2) fun q=>.inr ⟨x,q.2⟩
 obtain ⟨R2,x2⟩:=R1.stored hW fb sb F' dv;exact q _ h' tk (Nat.le_trans lA lB) ⟨rfl,_,O1,R2,xA.trans x2 R.len⟩
theorem dz (he:EVM W T n env μ Θ (eval e env) d μ' Θ') (hin:autoParam (interactive env = false) rfT) (hsw:autoParam (swapsWith e none pos.line env = pure false) rfT) :
  EX W T n env μ Θ (exec (.Expr e pos) env) (.nxt μ' Θ'):=by
 refine .of ?_;intro A s vm O M0 r t R Q E q;exact wpAny_Expr_any (he.run A s vm O M0 r t R _ _ fun v h1a tA vm1 O1 lA R1 xA dv=>q _ h1a tA lA ⟨rfl,vm1,O1,R1,xA⟩) hin hsw
theorem iU (he:EVM W T n env μ Θ (eval e env) d μ' Θ'):EX W T n env μ Θ (exec (.Return (some e) pos) env) (.ret d Θ'):=by
 refine .of ?_;intro A s vm O M0 r t R Q E q;exact wpAny_Return_some (he.run A s vm O M0 r t R _ _ fun v h1a tA vm1 O1 lA R1 xA dv=>q _ h1a tA lA ⟨v,O1,rfl,R1.toRpH,dv,xA⟩)
structure m0 (W:Wd) (T:Heap->Prop) (n:Nat) (env:Env) (μ:Str->Option D) (Θ:List ac) (es:List Expr) (ds:List D) (μ':Str->Option D) (Θ':List ac):Prop where
 of ::
 run:∀ (A:Around) (s:Shared) (vm:Str->Option Value) (O:List Addr) (M0:Addr->Prop) (pos:Pos),aL n A->0 <= s.toks->Rp W T env M0 μ Θ s.heap vm O->
  ∀ (Q:List Value->Shared->Prop) (E:Value->Shared->Prop),(∀ vs h' tk vm' O',s.toks <= tk->Rp W T env M0 μ' Θ' h' vm' O'->Nx W (Fx env) s.heap O Θ h' O' Θ'->am h' O' (Mx M0 O' Θ') vs ds->Q vs { s with heap:=h',toks:=tk })->
   wpAny (model W.prog W.w) A (spliced (backTo pos (starEach es env))) Q E s
theorem eV:m0 W T n env μ Θ [] [] μ Θ:=.of fun _ s vm O _ _ _ _ R _ _ q=>spliced_none (q [] s.heap s.toks vm O (Nat.le_refl _) R (.refl ..) .nil)
theorem dg {es:List Expr} (h1:EVM W T n env μ Θ (eval e env) d μ' Θ') (h2:m0 W T n env μ' Θ' es ds μ'' Θ'') (he:autoParam (starEach (e :: es) env = (false,eval e env) :: starEach es env) rfT):m0 W T n env μ Θ (e :: es) (d :: ds) μ'' Θ'':=by
 refine .of ?_;intro A s vm O M0 pos r t R Q E q;refine spliced_more (h1.run A s vm O M0 r t R _ _ fun v h1a tA vm1 O1 lA R1 xA dA=>?_) he
 refine h2.run A _ vm1 O1 M0 pos r (Nat.le_trans t lA) R1 _ _ fun vs hJ tJ vm2 O2 lB R2 x2 dB=>?_
 exact q _ hJ tJ vm2 O2 (Nat.le_trans lA lB) R2 (xA.trans x2 R.len) (.cons (dA.nx R1 x2) dB)
structure FM (W:Wd) (T:Heap->Prop) (n:Nat) (f:Value) (args:List D) (Θ:List ac) (d:D) (Θ':List ac):Prop where
 of ::
 code:∀ (A:Around) (s:Shared) (O:List Addr) (M0:Addr->Prop) (vals:List Value),aL n A->0 <= s.toks->RpH W T M0 Θ s.heap O->am s.heap O (Mx M0 O Θ) vals args->
  ∀ (P:Result->Shared->Prop),(∀ v h' tk O',s.toks <= tk->RpH W T M0 Θ' h' O'->Nx W Nox s.heap O Θ h' O' Θ'->Den h' O' (Mx M0 O' Θ') v d->P (.ok (.ret v)) { s with heap:=h',toks:=tk })->codeAny (model W.prog W.w) A (.call f ⟨vals,[]⟩) P s
variable {args:List D}
theorem FM.run {f:Value} (h:FM W T n f args Θ d Θ') (A:Around) (s:Shared) (O:List Addr) (M0:Addr->Prop) (vals:List Value) (r:aL n A) (t:0 <= s.toks) (R:RpH W T M0 Θ s.heap O) (V:am s.heap O (Mx M0 O Θ) vals args)
  (Q E:Value->Shared->Prop) (q:∀ v h' tk O',s.toks <= tk->RpH W T M0 Θ' h' O'->Nx W Nox s.heap O Θ h' O' Θ'->Den h' O' (Mx M0 O' Θ') v d->Q v { s with heap:=h',toks:=tk }):wpAny (model W.prog W.w) A (call f vals) Q E s:=
 wpAny_call (h.code A s O M0 vals r t R V _ q)
theorem FM.le {f:Value} {m:Nat} (h:FM W T n f as Θ d Θ') (hm:n <= m):FM W T m f as Θ d Θ':=
 .of fun A s O M vs r t R V P q=>h.code A s O M vs (r.le hm) t R V P q
structure BND (W:Wd) (T:Heap->Prop) (fd:FuncData) (args:List D) (names:List Str) (bd:List D):Prop where
 of ::
 run:∀ (A:Around) (s:Shared) (O:List Addr) (M:Addr->Prop) (vals:List Value),Ok W T M s->am s.heap O M vals args->
  ∀ (Q:List (Str × Value)->Shared->Prop) (E:Value->Shared->Prop),(∀ vs h',Stp W T s.heap h'->am h' O M vs bd->Q (names.zip vs) { s with heap:=h' })->wpAny (model W.prog W.w) A (bindArgs fd ⟨vals,[]⟩) Q E s
theorem df (hbind:∀ vals:List Value,vals.length = args.length->bindArgs fd ⟨vals,[]⟩ = pure (names.zip vals)):BND W T fd args names args:=
 .of fun A s O M vals k V Q E q=>by
  rw [hbind vals V.length];exact wpAny_pure (q vals s.heap (.refl k.gd) V)
theorem qO (hW:Wok W T) {d1:List D} {x:Str} (hbind:∀ (more:List Value) (vals:List Value),vals.length = d1.length->bindArgs fd ⟨vals ++ more,[]⟩ = (do let t <- newTuple more;pure (names.zip (vals ++ [t])))) (hl:ds.length <= 1000) :
  BND W T fd (d1 ++ ds) names (d1 ++ [.tup ds]):=
 .of fun A s O M vals k V Q E q=>by
  have hsplit:∀ (d1:List D) {vals:List Value},am s.heap O M vals (d1 ++ ds)->∃ v1 v2,vals = v1 ++ v2 /\ am s.heap O M v1 d1 /\ am s.heap O M v2 ds:=by
   intro d1
   induction d1 with
   | nil=>exact fun V=>⟨[],_,rfl,.nil,V⟩
   | cons d d1 ih=>
    intro vals V
    induction V using kE with
    | cons x y=>
     obtain ⟨v1,v2,rfl,h1,h2⟩:=ih y;exact ⟨_ :: v1,v2,rfl,.cons x h1,h2⟩
  obtain ⟨v1,v2,rfl,V1,V2⟩:=hsplit d1 V;rw [hbind v2 v1 V1.length];refine wpAny_bind (wpAny_newTuple ?_ (by rw [V2.length,sizeLine_eq];omega))
  have kp:∀ a o,s.heap.get? a = some o->(s.heap.push { cls:=.type "tuple",data:=.seq v2.toArray }).get? a = some o:=fun a o e=>Heap.get?_push_of_some _ e
  have st:Stp W T s.heap (s.heap.push { cls:=.type "tuple",data:=.seq v2.toArray }):=.of hW k.gd kp;refine wpAny_pure (q _ _ st ?_)
  have app:∀ {a:List Value} {b:List D} {v:Value} {d:D},am (s.heap.push { cls:=.type "tuple",data:=.seq v2.toArray }) O M a b->Den (s.heap.push { cls:=.type "tuple",data:=.seq v2.toArray }) O M v d->am (s.heap.push { cls:=.type "tuple",data:=.seq v2.toArray }) O M (a ++ [v]) (b ++ [d]):=by
   intro a b v d x y;exact x.append (.cons y .nil)
  exact app (V1.st k.gd st.kp) (.tup ⟨0,Heap.get?_push_size _ rfl⟩ (ij k (.refl k.gd)) (V2.st k.gd st.kp))
theorem Nx.strip (x:Nx W (Fx env) h O Θ h' O' Θ') (fresh:∀ a,Fx env a->h.get? a = none):Nx W Nox h O Θ h' O' Θ':=
 ⟨fun a ob ht z e=>x.kp a ob ht (fun y=>y.elim (fun f=>by rw [fresh a f] at e;cases e) fun l=>z (.inr l)) e,x.ext,x.grow,x.later⟩
variable {bd:List D}
theorem jU (hW:Wok W T) {f:Addr} 
  (ho:W.K.lookup f = some ⟨oc,od,.func fd,osl⟩) (hbody:fd.body = .stmts body) (hcd:codeIn W.K fd.code fd.qualname = true) (hclo:fd.closure = []) (hgl:fd.globals = mainGlobals) (hbl:fd.builtins = builtinsNs)
  (hbind:BND W T fd args names bd) (hpar:names.all (ew fd.scope) = true) (hsc:br fd.scope = true) (hco:fd.scope.isCoroutine = false) (hgen:fd.scope.isGenerator = false) (hk:fd.scope.kind = .function)
  {vals:List Value} (r:aL (n + 1) A) (tO:0 <= s.toks) (R0:RpH W T M0 Θ s.heap O) (V:am s.heap O (Mx M0 O Θ) vals args) {P:Result->Shared->Prop}
  (k:∀ (L:Addr) (h0a h1a:Heap) (tk1:Nat) (vm:Str->Option Value),s.toks <= tk1->Stp W T s.heap h0a->Stp W T h0a h1a->RpH W T M0 Θ h0a O->h0a.get? L = none->W.nb <= L->Fm W h1a (callEnvC fd L f) vm->(∀ a,Fx (callEnvC fd L f) a->h0a.get? a = none)->bz h1a O (Mx M0 O Θ) vm (ix names bd)->
   wpAny (model W.prog W.w) (A.deeper (callEnvC fd L f)) (execs body (callEnvC fd L f)) (fun f s'=>P (.ok (.ret (match f with | .ret v=>v | _=>.none))) s')
    (fun e s'=>wpAny (model W.prog W.w) (A.deeper (callEnvC fd L f)) (leaving (callEnvC fd L f) e) (fun _ s''=>P (.error e) s'') (fun e' s''=>P (.error e') s'') s') { s with heap:=h1a,toks:=tk1 }) :
  codeAny (model W.prog W.w) A (.call (.ref f) ⟨vals,[]⟩) P s:=by
 have kk:=R0.ok tO;refine codeAny_call_function (fd:=fd) r.lim (kk.gd.k f _ ho) rfl hco hgen hbody (codeRec_of kk.gd.k hcd) ?_
 rw [hclo];refine hbind.run _ s O _ vals kk V _ _ fun vs h0a stO VZ=>?_
 have R1:=R0.step stO;refine wpAny_with_toks (Nat.le_refl s.toks) (wpAny_newFunctionEnv_cells hk (fun x hx=>yy hpar _ x.1 (qo hx)) fun env he s' X le=>?_)
 subst he;refine ⟨stO.gd.lim.keeps X.toInCall.keep,codeAny_func ?_⟩
 obtain ⟨h1a,tk1,rfl⟩:=X.toInCall.same;have st:Stp W T h0a h1a:=.of hW stO.gd X.toInCall.keep;obtain ⟨F,fresh⟩:=xS (W:=W) hk hgl hbl hsc stO.gd.size X;exact k h0a.objs.size h0a h1a tk1 _ le stO st R1 az stO.gd.size F fresh fun x dd e=>by
  obtain ⟨v,h1,h2⟩:=qr names (VZ.st stO.gd st.kp) [] [] (fun _ _ e=>nomatch e) x dd ((append_nil _).symm ▸ e)
  exact ⟨v,append_nil (names.zip vs).reverse ▸ h1,h2⟩
theorem qd (hW:Wok W T) {f:Addr} 
  (ho:W.K.lookup f = some ⟨oc,od,.func fd,osl⟩) (hbody:fd.body = .stmts body) (hcd:codeIn W.K fd.code fd.qualname = true) (hclo:fd.closure = []) (hgl:fd.globals = mainGlobals) (hbl:fd.builtins = builtinsNs)
  (hbind:BND W T fd args names bd) (hpar:names.all (ew fd.scope) = true) (hsc:br fd.scope = true)
  (hb:∀ L,∃ o,EX W T n (callEnvC fd L f) (ix names bd) Θ (execs body (callEnvC fd L f)) o /\ (o = .ret d Θ' \/ ∃ μ',o = .nxt μ' Θ' /\ d = .none))
  (hco:autoParam (fd.scope.isCoroutine = false) rfT) (hgen:autoParam (fd.scope.isGenerator = false) rfT) (hk:autoParam (fd.scope.kind = .function) rfT):FM W T (n + 1) (.ref f) args Θ d Θ':=by
 refine .of ?_;intro A s O M0 vals r tO R0 V P q;refine jU hW ho hbody hcd hclo hgl hbl hbind hpar hsc hco hgen hk r tO R0 V fun L h0a h1a tk1 vm leA stO st R1 hn hL F fresh VA=>?_
 have R:Rp W T (callEnvC fd L f) M0 (ix names bd) Θ h1a vm O:=⟨R1.step st,F,VA,fun a la fa=>by
  have:=ou R1 la;rw [fresh a fa] at this;cases this⟩
 obtain ⟨o,hb,hout⟩:=hb L;have fin:∀ {h':Heap} {O':List Addr},Nx W (Fx (callEnvC fd L f)) h1a O Θ h' O' Θ'->Nx W Nox s.heap O Θ h' O' Θ':=fun x=>((Nx.of (stO.trans st)).trans x R0.len).strip fun a f=>eY stO (fresh a f)
 refine hb.run _ _ _ O M0 (r.deeper _) (Nat.le_trans tO leA) R _ _ fun fl h' tk le2 p=>?_
 rcases hout with rfl | ⟨μ',rfl,rfl⟩
 ·obtain ⟨v,O',rfl,R',dv,x⟩:=p;exact q v h' tk O' (Nat.le_trans leA le2) R' (fin x) dv
 ·obtain ⟨rfl,vm',O',R',x⟩:=p;exact q .none h' tk O' (Nat.le_trans leA le2) R'.toRpH (fin x) .none
noncomputable abbrev oZ:Str->Option D:=fun _=>none
theorem iN:EX W T n env μ Θ (execs [] env) (.nxt oZ Θ):=ar.sub fun _ _ e=>nomatch e
theorem EX.forget {c:Sem Flow} (h:EX W T n env μ Θ c (.nxt μ' Θ')):EX W T n env μ Θ c (.nxt oZ Θ'):=h.sub fun _ _ e=>nomatch e
theorem rU (hW:Wok W T) {f:Addr} 
  (ho:W.K.lookup f = some ⟨oc,od,.func fd,osl⟩) (hbody:fd.body = .stmts body) (hcd:codeIn W.K fd.code fd.qualname = true) (hclo:fd.closure = []) (hgl:fd.globals = mainGlobals) (hbl:fd.builtins = builtinsNs)
  (hbind:BND W T fd args names bd) (hpar:names.all (ew fd.scope) = true) (hsc:br fd.scope = true)
  (hb:∀ L,EX W T n (callEnvC fd L f) (ix names bd) Θ (execs body (callEnvC fd L f)) (.ret d Θ'))
  (hco:autoParam (fd.scope.isCoroutine = false) rfT) (hgen:autoParam (fd.scope.isGenerator = false) rfT) (hk:autoParam (fd.scope.kind = .function) rfT):FM W T (n + 1) (.ref f) args Θ d Θ':=
 qd hW ho hbody hcd hclo hgl hbl hbind hpar hsc (fun L=>⟨_,hb L,.inl rfl⟩) hco hgen hk
theorem kN (hW:Wok W T) {f:Addr} 
  (ho:W.K.lookup f = some ⟨oc,od,.func fd,osl⟩) (hbody:fd.body = .stmts body) (hcd:codeIn W.K fd.code fd.qualname = true) (hclo:fd.closure = []) (hgl:fd.globals = mainGlobals) (hbl:fd.builtins = builtinsNs)
  (hbind:BND W T fd args names bd) (hpar:names.all (ew fd.scope) = true) (hsc:br fd.scope = true)
  (hb:∀ L,EX W T n (callEnvC fd L f) (ix names bd) Θ (execs body (callEnvC fd L f)) (.nxt oZ Θ'))
  (hco:autoParam (fd.scope.isCoroutine = false) rfT) (hgen:autoParam (fd.scope.isGenerator = false) rfT) (hk:autoParam (fd.scope.kind = .function) rfT):FM W T (n + 1) (.ref f) args Θ .none Θ':=
 qd hW ho hbody hcd hclo hgl hbl hbind hpar hsc (fun L=>⟨_,hb L,.inr ⟨_,rfl,rfl⟩⟩) hco hgen hk
theorem FM.toFP {f:Value} (h:FM W T n f args [] d Θ') (hnr:D.nrL args = true) (hdr:Θ'.all (fun o=>match o with | .gone=>true | _=>false) = true) (hnd:d.nr = true):FP W T n f args d:=by
 refine .of ?_;intro A s O M vals r k V Q E q;have nl:∀ a,¬ bf [] [] a:=fun a ⟨i,o,h1,_⟩=>nomatch h1
 refine h.run A s [] M vals r k.tk ⟨k.gd,k.live,rfl,.nil,(fun a ha=>nomatch ha),(fun a ha=>nomatch ha),(fun a ha=>nomatch ha),fun i a o h1 _=>nomatch h1⟩ ((V.nr (O':=[]) hnr).kseq (.refl _) (fun _ _ e=>e) fun a m _=>m.elim id fun l=>(nl a l).elim) Q E fun v h' tk O' le R' x dv=>?_
 exact q v h' tk le ⟨fun a o ht e=>x.kp a o ht (fun z=>z.elim id (nl a)) e,R'.gd⟩ ((dv.nr hnd).kseq (.refl _) (fun _ _ e=>e) fun a m _=>.inl m)
theorem dH (hW:Wok W T) {f:Addr} 
  (ho:W.K.lookup f = some ⟨oc,od,.func fd,osl⟩) (hbody:fd.body = .stmts body) (hcd:codeIn W.K fd.code fd.qualname = true) (hclo:fd.closure = []) (hgl:fd.globals = mainGlobals) (hbl:fd.builtins = builtinsNs)
  (hbind:∀ vals:List Value,vals.length = args.length->bindArgs fd ⟨vals,[]⟩ = pure (names.zip vals)) (hpar:names.all (ew fd.scope) = true) (hsc:br fd.scope = true)
  (hnr:D.nrL args = true) (hdr:Θ'.all (fun o=>match o with | .gone=>true | _=>false) = true) (hnd:d.nr = true)
  (hb:∀ L,EX W T n (callEnvC fd L f) (ix names args) [] (execs body (callEnvC fd L f)) (.ret d Θ'))
  (hco:autoParam (fd.scope.isCoroutine = false) rfT) (hgen:autoParam (fd.scope.isGenerator = false) rfT) (hk:autoParam (fd.scope.kind = .function) rfT):FP W T (n + 1) (.ref f) args d:=
 (qd hW ho hbody hcd hclo hgl hbl (df hbind) hpar hsc (fun L=>⟨_,hb L,.inl rfl⟩) hco hgen hk).toFP hnr hdr hnd
variable {P:Params}
theorem yj (hW:Wok W T) (hK:W.K = hd.heap_39 P) (x y:Str):FP W T 2 (.ref 190) [.str x,.str y] (.int (b2i (y.cps.toList < x.cps.toList) - b2i (x.cps.toList < y.cps.toList))):=by
 refine dH hW (by rw [hK];with_unfolding_all rfl) rfl (by rw [hK];with_unfolding_all rfl) rfl rfl rfl (names:=[Str.ofString "x",Str.ofString "y"]) (vs2 fun _ _=>rfl) (by decide +kernel) (by decide +kernel) rfl ?_ rfl (fun L=>?_) (Θ':=[])
 ·rfl
 ·refine aM (cy (be.refl _ _) ?_) rfl
  refine av (iR (aa rfl rfl) (aa rfl rfl) sM) (iR (aa rfl rfl) (aa rfl rfl) sy) q4
noncomputable def aI (rs:List (Nat × List Nat)) (l:List Nat):List Nat:=rs.foldl (fun l r=>l.flatMap (sub r.1 r.2)) l
noncomputable def iX:List (Nat × List Nat):=[(38,[38,97,109,112,59]),(60,[38,108,116,59]),(62,[38,103,116,59])]
noncomputable def jb:List (Nat × List Nat):=[(38,[38,97,109,112,59]),(60,[38,108,116,59]),(62,[38,103,116,59]),(13,[38,35,120,68,59])]
noncomputable def dL:List (Nat × List Nat):=[(38,[38,97,109,112,59]),(60,[38,108,116,59]),(62,[38,103,116,59]),(34,[38,113,117,111,116,59]),(13,[38,35,49,51,59]),(10,[38,35,49,48,59]),(9,[38,35,48,57,59])]
noncomputable def cJ:List (Nat × List Nat):=[(38,[38,97,109,112,59]),(60,[38,108,116,59]),(34,[38,113,117,111,116,59]),(9,[38,35,120,57,59]),(10,[38,35,120,65,59]),(13,[38,35,120,68,59])]
noncomputable def ky:List (Nat × List Nat):=[(38,[38,97,109,112,59]),(62,[38,103,116,59]),(34,[38,113,117,111,116,59])]
theorem ww (hW:Wok W T) (hK:W.K = hd.heap_39 P) (l:List Nat) (hl:l.length <= 4):FP W T 2 (.ref 35) [.str (S l)] (.str (S (aI iX l))):=by
 have b0:=aZ 38 [38,97,109,112,59] 6 (by decide) (by decide) (aI (iX.take 0) l)
 have b1:=aZ 60 [38,108,116,59] 6 (by decide) (by decide) (aI (iX.take 1) l)
 simp only [iX,List.take,aI,List.foldl] at b0 b1;refine dH hW (by rw [hK];with_unfolding_all rfl) rfl (by rw [hK];with_unfolding_all rfl) rfl rfl rfl (names:=[Str.ofString "text"]) (vs1 fun _=>rfl) (by decide +kernel) (by decide +kernel) rfl ?_ rfl (fun L=>?_) (Θ':=[])
 ·rfl
 ·refine aM (jG ?_) rfl
  refine ae (bp hW (c:=38) (z:=[38,97,109,112,59]) rfl rfl rfl rfl (by omega) (by decide) rfl rfl rfl rfl) ?_
  refine ae (bp hW (c:=60) (z:=[38,108,116,59]) rfl rfl rfl rfl (by omega) (by decide) rfl rfl rfl rfl) ?_
  refine ae (bp hW (c:=62) (z:=[38,103,116,59]) rfl rfl rfl rfl (by omega) (by decide) rfl rfl rfl rfl) ?_
  exact aM (cy (be.refl _ _) (aa rfl rfl)) rfl
theorem wQ (hW:Wok W T) (hK:W.K = hd.heap_39 P) (l:List Nat) (hl:l.length <= 4):FP W T 2 (.ref 56) [.str (S l)] (.str (S (aI jb l))):=by
 have b0:=aZ 38 [38,97,109,112,59] 6 (by decide) (by decide) (aI (jb.take 0) l)
 have b1:=aZ 60 [38,108,116,59] 6 (by decide) (by decide) (aI (jb.take 1) l)
 have b2:=aZ 62 [38,103,116,59] 6 (by decide) (by decide) (aI (jb.take 2) l)
 simp only [jb,List.take,aI,List.foldl] at b0 b1 b2;refine dH hW (by rw [hK];with_unfolding_all rfl) rfl (by rw [hK];with_unfolding_all rfl) rfl rfl rfl (names:=[Str.ofString "text"]) (vs1 fun _=>rfl) (by decide +kernel) (by decide +kernel) rfl ?_ rfl (fun L=>?_) (Θ':=[])
 ·rfl
 ·refine aM (jG ?_) rfl
  refine ae (bp hW (c:=38) (z:=[38,97,109,112,59]) rfl rfl rfl rfl (by omega) (by decide) rfl rfl rfl rfl) ?_
  refine ae (bp hW (c:=60) (z:=[38,108,116,59]) rfl rfl rfl rfl (by omega) (by decide) rfl rfl rfl rfl) ?_
  refine ae (bp hW (c:=62) (z:=[38,103,116,59]) rfl rfl rfl rfl (by omega) (by decide) rfl rfl rfl rfl) ?_
  refine ae (bp hW (c:=13) (z:=[38,35,120,68,59]) rfl rfl rfl rfl (by omega) (by decide) rfl rfl rfl rfl) ?_
  exact aM (cy (be.refl _ _) (aa rfl rfl)) rfl
theorem tS (hW:Wok W T) (hK:W.K = hd.heap_39 P) (l:List Nat) (hl:l.length <= 4):FP W T 2 (.ref 42) [.str (S l)] (.str (S (aI dL l))):=by
 have b0:=aZ 38 [38,97,109,112,59] 6 (by decide) (by decide) (aI (dL.take 0) l)
 have b1:=aZ 60 [38,108,116,59] 6 (by decide) (by decide) (aI (dL.take 1) l)
 have b2:=aZ 62 [38,103,116,59] 6 (by decide) (by decide) (aI (dL.take 2) l)
 have b3:=aZ 34 [38,113,117,111,116,59] 6 (by decide) (by decide) (aI (dL.take 3) l)
 have b4:=aZ 13 [38,35,49,51,59] 6 (by decide) (by decide) (aI (dL.take 4) l)
 have b5:=aZ 10 [38,35,49,48,59] 6 (by decide) (by decide) (aI (dL.take 5) l)
 simp only [dL,List.take,aI,List.foldl] at b0 b1 b2 b3 b4 b5;refine dH hW (by rw [hK];with_unfolding_all rfl) rfl (by rw [hK];with_unfolding_all rfl) rfl rfl rfl (names:=[Str.ofString "text"]) (vs1 fun _=>rfl) (by decide +kernel) (by decide +kernel) rfl ?_ rfl (fun L=>?_) (Θ':=[])
 ·rfl
 ·refine aM (jG ?_) rfl
  refine ae (bp hW (c:=38) (z:=[38,97,109,112,59]) rfl rfl rfl rfl (by omega) (by decide) rfl rfl rfl rfl) ?_
  refine ae (bp hW (c:=60) (z:=[38,108,116,59]) rfl rfl rfl rfl (by omega) (by decide) rfl rfl rfl rfl) ?_
  refine ae (bp hW (c:=62) (z:=[38,103,116,59]) rfl rfl rfl rfl (by omega) (by decide) rfl rfl rfl rfl) ?_
  refine ae (bp hW (c:=34) (z:=[38,113,117,111,116,59]) rfl rfl rfl rfl (by omega) (by decide) rfl rfl rfl rfl) ?_
  refine ae (bp hW (c:=13) (z:=[38,35,49,51,59]) rfl rfl rfl rfl (by omega) (by decide) rfl rfl rfl rfl) ?_
  refine ae (bp hW (c:=10) (z:=[38,35,49,48,59]) rfl rfl rfl rfl (by omega) (by decide) rfl rfl rfl rfl) ?_
  refine ae (bp hW (c:=9) (z:=[38,35,48,57,59]) rfl rfl rfl rfl (by omega) (by decide) rfl rfl rfl rfl) ?_
  exact aM (cy (be.refl _ _) (aa rfl rfl)) rfl
theorem qT (hW:Wok W T) (hK:W.K = hd.heap_39 P) (l:List Nat) (hl:l.length <= 4):FP W T 2 (.ref 63) [.str (S l)] (.str (S (aI cJ l))):=by
 have b0:=aZ 38 [38,97,109,112,59] 6 (by decide) (by decide) (aI (cJ.take 0) l)
 have b1:=aZ 60 [38,108,116,59] 6 (by decide) (by decide) (aI (cJ.take 1) l)
 have b2:=aZ 34 [38,113,117,111,116,59] 6 (by decide) (by decide) (aI (cJ.take 2) l)
 have b3:=aZ 9 [38,35,120,57,59] 6 (by decide) (by decide) (aI (cJ.take 3) l)
 have b4:=aZ 10 [38,35,120,65,59] 6 (by decide) (by decide) (aI (cJ.take 4) l)
 simp only [cJ,List.take,aI,List.foldl] at b0 b1 b2 b3 b4;refine dH hW (by rw [hK];with_unfolding_all rfl) rfl (by rw [hK];with_unfolding_all rfl) rfl rfl rfl (names:=[Str.ofString "text"]) (vs1 fun _=>rfl) (by decide +kernel) (by decide +kernel) rfl ?_ rfl (fun L=>?_) (Θ':=[])
 ·rfl
 ·refine aM (jG ?_) rfl
  refine ae (bp hW (c:=38) (z:=[38,97,109,112,59]) rfl rfl rfl rfl (by omega) (by decide) rfl rfl rfl rfl) ?_
  refine ae (bp hW (c:=60) (z:=[38,108,116,59]) rfl rfl rfl rfl (by omega) (by decide) rfl rfl rfl rfl) ?_
  refine ae (bp hW (c:=34) (z:=[38,113,117,111,116,59]) rfl rfl rfl rfl (by omega) (by decide) rfl rfl rfl rfl) ?_
  refine ae (bp hW (c:=9) (z:=[38,35,120,57,59]) rfl rfl rfl rfl (by omega) (by decide) rfl rfl rfl rfl) ?_
  refine ae (bp hW (c:=10) (z:=[38,35,120,65,59]) rfl rfl rfl rfl (by omega) (by decide) rfl rfl rfl rfl) ?_
  refine ae (bp hW (c:=13) (z:=[38,35,120,68,59]) rfl rfl rfl rfl (by omega) (by decide) rfl rfl rfl rfl) ?_
  exact aM (cy (be.refl _ _) (aa rfl rfl)) rfl
theorem wW (hW:Wok W T) (hK:W.K = hd.heap_39 P) (l:List Nat) (hl:l.length <= 4):FP W T 2 (.ref 49) [.str (S l)] (.str (S (aI ky l))):=by
 have b0:=aZ 38 [38,97,109,112,59] 6 (by decide) (by decide) (aI (ky.take 0) l)
 have b1:=aZ 62 [38,103,116,59] 6 (by decide) (by decide) (aI (ky.take 1) l)
 simp only [ky,List.take,aI,List.foldl] at b0 b1;refine dH hW (by rw [hK];with_unfolding_all rfl) rfl (by rw [hK];with_unfolding_all rfl) rfl rfl rfl (names:=[Str.ofString "text"]) (vs1 fun _=>rfl) (by decide +kernel) (by decide +kernel) rfl ?_ rfl (fun L=>?_) (Θ':=[])
 ·rfl
 ·refine aM (jG ?_) rfl
  refine ae (bp hW (c:=38) (z:=[38,97,109,112,59]) rfl rfl rfl rfl (by omega) (by decide) rfl rfl rfl rfl) ?_
  refine ae (bp hW (c:=62) (z:=[38,103,116,59]) rfl rfl rfl rfl (by omega) (by decide) rfl rfl rfl rfl) ?_
  refine ae (bp hW (c:=34) (z:=[38,113,117,111,116,59]) rfl rfl rfl rfl (by omega) (by decide) rfl rfl rfl rfl) ?_
  exact aM (cy (be.refl _ _) (aa rfl rfl)) rfl
theorem dI (P:Params):nsIn (hd.heap_39 P) mainGlobals "sum" = some none /\ nsIn (hd.heap_39 P) mainGlobals "len" = some none /\ nsIn (hd.heap_39 P) mainGlobals "max" = some none /\ nsIn (hd.heap_39 P) mainGlobals "chr" = some none /\ nsIn (hd.heap_39 P) mainGlobals "ord" = some none /\ nsIn (hd.heap_39 P) mainGlobals "sorted" = some none /\ nsIn (hd.heap_39 P) mainGlobals "iter" = some none /\ nsIn (hd.heap_39 P) mainGlobals "range" = some none /\ nsIn (hd.heap_39 P) mainGlobals "zip" = some none /\ nsIn (hd.heap_39 P) mainGlobals "enumerate" = some none /\ nsIn (hd.heap_39 P) mainGlobals "set" = some none /\ nsIn (hd.heap_39 P) mainGlobals "tuple" = some none:=by
 refine ⟨?_,?_,?_,?_,?_,?_,?_,?_,?_,?_,?_,?_⟩ <;> kernel_rfl
theorem iJ (hK:W.K = hd.heap_39 P) (h:env.kindOf "sum" = some .globalImplicit):Glb W env "sum" (.builtin "sum"):=.built h (by rw [hK];exact (dI P).1) (by kernel_rfl) (by decide)
theorem ck (hK:W.K = hd.heap_39 P) (h:env.kindOf "len" = some .globalImplicit):Glb W env "len" (.builtin "len"):=.built h (by rw [hK];exact (dI P).2.1) (by kernel_rfl) (by decide)
theorem xt (hK:W.K = hd.heap_39 P) (h:env.kindOf "max" = some .globalImplicit):Glb W env "max" (.builtin "max"):=.built h (by rw [hK];exact (dI P).2.2.1) (by kernel_rfl) (by decide)
theorem xZ (hK:W.K = hd.heap_39 P) (h:env.kindOf "chr" = some .globalImplicit):Glb W env "chr" (.builtin "chr"):=.built h (by rw [hK];exact (dI P).2.2.2.1) (by kernel_rfl) (by decide)
theorem xj (hK:W.K = hd.heap_39 P) (h:env.kindOf "ord" = some .globalImplicit):Glb W env "ord" (.builtin "ord"):=.built h (by rw [hK];exact (dI P).2.2.2.2.1) (by kernel_rfl) (by decide)
theorem l7 (hK:W.K = hd.heap_39 P) (h:env.kindOf "sorted" = some .globalImplicit):Glb W env "sorted" (.builtin "sorted"):=.built h (by rw [hK];exact (dI P).2.2.2.2.2.1) (by kernel_rfl) (by decide)
theorem vn (hK:W.K = hd.heap_39 P) (h:env.kindOf "iter" = some .globalImplicit):Glb W env "iter" (.builtin "iter"):=.built h (by rw [hK];exact (dI P).2.2.2.2.2.2.1) (by kernel_rfl) (by decide)
theorem cO (hK:W.K = hd.heap_39 P) (h:env.kindOf "range" = some .globalImplicit):Glb W env "range" (.type "range"):=.built h (by rw [hK];exact (dI P).2.2.2.2.2.2.2.1) (by kernel_rfl) (by decide)
theorem iK (hK:W.K = hd.heap_39 P) (h:env.kindOf "zip" = some .globalImplicit):Glb W env "zip" (.type "zip"):=.built h (by rw [hK];exact (dI P).2.2.2.2.2.2.2.2.1) (by kernel_rfl) (by decide)
theorem oT (hK:W.K = hd.heap_39 P) (h:env.kindOf "enumerate" = some .globalImplicit):Glb W env "enumerate" (.type "enumerate"):=.built h (by rw [hK];exact (dI P).2.2.2.2.2.2.2.2.2.1) (by kernel_rfl) (by decide)
theorem rP (hK:W.K = hd.heap_39 P) (h:env.kindOf "set" = some .globalImplicit):Glb W env "set" (.type "set"):=.built h (by rw [hK];exact (dI P).2.2.2.2.2.2.2.2.2.2.1) (by kernel_rfl) (by decide)
theorem uf (hK:W.K = hd.heap_39 P) (h:env.kindOf "tuple" = some .globalImplicit):Glb W env "tuple" (.type "tuple"):=.built h (by rw [hK];exact (dI P).2.2.2.2.2.2.2.2.2.2.2) (by kernel_rfl) (by decide)
noncomputable def aw (v:List Int):Nat:=match v with
 | [a,b,c,d,e]=>
  let half:=(a + b + c + d + e) / 2
  if (decide (half < a + b) && (decide (half < b + c + d) && (decide (b <= half) && true))) = true then 1
  else if (decide (half < c + d) && (decide (half < a + b + d) && (decide (d <= half) && true))) = true then 2
  else 0
 | _=>0
noncomputable def a6:Nat->List (List (List Nat))
 | 1=>[[[34]],[[35],[36],[37]],[[13]]]
 | 2=>[[[34]],[[62]],[[60]]]
 | _=>[]
noncomputable def jj (k:Nat):D:=.list ((a6 k).map fun c=>.list (c.map ag))
theorem tm (v:List Int):(jj (aw v)).nr = true:=by
 have h:∀ k,(jj k).nr = true:=fun k=>by rcases k with _ | _ | _ | k <;> rfl
 exact h _
theorem bC {x:Str} {pc:Pos} {kc:Nat} {k:Int} (hv:EVP W T n env μ (.Name x px) (.list ds)) (h0:0 <= k) (hk:ds[k.toNat]? = some d) (hfit:k < 2 ^ 60):EVP W T n env μ (.Subscript (.Name x px) (.Constant (.int k) kc pc) pos) d:=
 bZ hv aq h0 hk hfit
theorem xQ (hW:Wok W T) (hK:W.K = hd.heap_39 P) (a b c d e:Int):FP W T 2 (.ref 212) [.list ([a,b,c,d,e].map .int)] (jj (aw [a,b,c,d,e])):=by
 refine dH hW (by rw [hK];with_unfolding_all rfl) rfl (by rw [hK];with_unfolding_all rfl) rfl rfl rfl (names:=[Str.ofString "votes"]) (vs1 fun _=>rfl) (by decide +kernel) (by decide +kernel) rfl ?_ (tm _) (fun L=>?_) (Θ':=[])
 ·rfl
 ·have hs:[a,b,c,d,e].sum = a + b + c + d + e:=by simp;omega
  refine ae (b6 hW (d:=.int ((a + b + c + d + e) / 2)) (av (a7 hW (iJ hK rfl) (af (aa rfl rfl) ak) (hs ▸ jY hW) rfl) aq (eG (by decide) (by decide))) rfl rfl) ?_
  by_cases h1:(decide ((a + b + c + d + e) / 2 < a + b) && (decide ((a + b + c + d + e) / 2 < b + c + d) && (decide (b <= (a + b + c + d + e) / 2) && true))) = true
  ·have e1:aw [a,b,c,d,e] = 1:=if_pos h1;refine EX.ret_eq ?_ (congrArg jj e1.symm)
   refine aM (gf (be.refl _ _) (b:=true) ?_ (fun _=>aM (cy (be.refl _ _) ?_) rfl) (fun z=>nomatch z)) rfl
   ·refine TST.eq ?_ h1
    refine aR (au (av (bC (aa rfl rfl) (by decide) rfl (by decide)) (bC (aa rfl rfl) (by decide) rfl (by decide)) bu) (aa rfl rfl) bU) fun _=>?_
    refine aR (au (av (av (bC (aa rfl rfl) (by decide) rfl (by decide)) (bC (aa rfl rfl) (by decide) rfl (by decide)) bu) (bC (aa rfl rfl) (by decide) rfl (by decide)) bu) (aa rfl rfl) bU) fun _=>?_
    exact aR (au (bC (aa rfl rfl) (by decide) rfl (by decide)) (aa rfl rfl) gJ) fun _=>ci
   ·exact aY hW (af (aY hW (af bl ak)) (af (aY hW (af bl (af bl (af bl ak)))) (af (aY hW (af bl ak)) ak)))
  ·have h1':=Bool.eq_false_iff.mpr h1;refine ae (gf (be.refl _ _) (b:=false) ?_ (fun z=>nomatch z) (fun _=>ar)) ?_
   ·refine TST.eq ?_ h1'
    refine aR (au (av (bC (aa rfl rfl) (by decide) rfl (by decide)) (bC (aa rfl rfl) (by decide) rfl (by decide)) bu) (aa rfl rfl) bU) fun _=>?_
    refine aR (au (av (av (bC (aa rfl rfl) (by decide) rfl (by decide)) (bC (aa rfl rfl) (by decide) rfl (by decide)) bu) (bC (aa rfl rfl) (by decide) rfl (by decide)) bu) (aa rfl rfl) bU) fun _=>?_
    exact aR (au (bC (aa rfl rfl) (by decide) rfl (by decide)) (aa rfl rfl) gJ) fun _=>ci
   by_cases h2:(decide ((a + b + c + d + e) / 2 < c + d) && (decide ((a + b + c + d + e) / 2 < a + b + d) && (decide (d <= (a + b + c + d + e) / 2) && true))) = true
   ·have e1:aw [a,b,c,d,e] = 2:=(if_neg h1).trans (if_pos h2);refine EX.ret_eq ?_ (congrArg jj e1.symm)
    refine aM (gf (be.refl _ _) (b:=true) ?_ (fun _=>aM (cy (be.refl _ _) ?_) rfl) (fun z=>nomatch z)) rfl
    ·refine TST.eq ?_ h2
     refine aR (au (av (bC (aa rfl rfl) (by decide) rfl (by decide)) (bC (aa rfl rfl) (by decide) rfl (by decide)) bu) (aa rfl rfl) bU) fun _=>?_
     refine aR (au (av (av (bC (aa rfl rfl) (by decide) rfl (by decide)) (bC (aa rfl rfl) (by decide) rfl (by decide)) bu) (bC (aa rfl rfl) (by decide) rfl (by decide)) bu) (aa rfl rfl) bU) fun _=>?_
     exact aR (au (bC (aa rfl rfl) (by decide) rfl (by decide)) (aa rfl rfl) gJ) fun _=>ci
    ·exact aY hW (af (aY hW (af bl ak)) (af (aY hW (af bl ak)) (af (aY hW (af bl ak)) ak)))
   ·have h2':=Bool.eq_false_iff.mpr h2;have e1:aw [a,b,c,d,e] = 0:=(if_neg h1).trans (if_neg h2);refine EX.ret_eq ?_ (congrArg jj e1.symm)
    refine ae (gf (be.refl _ _) (b:=false) ?_ (fun z=>nomatch z) (fun _=>ar)) (aM (cy (be.refl _ _) (aY hW ak)) rfl)
    refine TST.eq ?_ h2'
    refine aR (au (av (bC (aa rfl rfl) (by decide) rfl (by decide)) (bC (aa rfl rfl) (by decide) rfl (by decide)) bu) (aa rfl rfl) bU) fun _=>?_
    refine aR (au (av (av (bC (aa rfl rfl) (by decide) rfl (by decide)) (bC (aa rfl rfl) (by decide) rfl (by decide)) bu) (bC (aa rfl rfl) (by decide) rfl (by decide)) bu) (aa rfl rfl) bU) fun _=>?_
    exact aR (au (bC (aa rfl rfl) (by decide) rfl (by decide)) (aa rfl rfl) gJ) fun _=>ci
noncomputable def wK (cs:List Int) (k:Nat) (v:Int):List Int:=cs.set k (cs.getD k 0 + v)
noncomputable def g8 (cs:List Int) (p:Int × Nat):List Int:=wK cs (p.2 % 6) (p.1 % 63700992)
noncomputable def aD (script:List Int):List Int:=(script.take 60).zipIdx.foldl g8 [21,0,4,8,32,12]
noncomputable def cQ (cs:List Int):List Int:=(List.range 5).map fun k=>cs.getD 0 0 / 4 ^ k % 4
noncomputable def c8 (cs:List Int):List Int:=(cQ cs).set 0 ((cQ cs).getD 0 0 + (1 - (cQ cs).sum % 2))
noncomputable def gQ:List Nat:=[34,35,13,60,62,37,38,9,32,48,61,97]
noncomputable def hY:List (List Nat):=[[],[60],[34],[38,13]]
noncomputable def g5:List (List Nat):=[[],[48],[34]]
noncomputable def kz (cell:Int):Nat:=gQ.getD (cell / 4 % 12).toNat 0
noncomputable def gY (cell:Int):Nat:=if cell / 144 % 8 = 7 then (cell / 1152 % 55296).toNat else kz cell
noncomputable def cK (cell:Int):List Nat:=hY.getD (cell % 4).toNat [] ++ [gY cell] ++ g5.getD (cell / 48 % 3).toNat []
noncomputable def cb (ts:List (List Nat)) (c:Int):List (List Nat):=if cK c ∈ ts then ts else ts ++ [cK c]
noncomputable def fE (cs:List Int):List (List Nat):=(cs.drop 1).foldl cb []
theorem vK (cell:Int):kz cell < 128:=by
 unfold kz List.getD
 cases h:gQ[(cell / 4 % 12).toNat]? with
 | none=>exact Nat.zero_lt_succ _
 | some x=>exact (by decide:∀ x ∈ gQ,x < 128) x (mem_of_getElem? h)
theorem tV (cell:Int):gY cell < 55296:=by
 unfold gY;split
 ·omega
 ·have:=vK cell;omega
theorem aF {α:Type} (l:List α) (k:Nat) (d:α) (h:k < l.length):l.getD k d ∈ l:=by simp [List.getD,h]
theorem n6 (cell:Int):(cK cell).length <= 4 /\ (∀ c ∈ cK cell,c < 55296) /\ cK cell ≠ []:=by
 have hh:∀ l ∈ hY,l.length <= 2 /\ ∀ c ∈ l,c < 128:=by decide
 have ht:∀ l ∈ g5,l.length <= 1 /\ ∀ c ∈ l,c < 128:=by decide
 obtain ⟨h1,h2⟩:=hh _ (aF hY (cell % 4).toNat [] (by show _ < 4;omega))
 obtain ⟨t1,t2⟩:=ht _ (aF g5 (cell / 48 % 3).toNat [] (by show _ < 3;omega))
 refine ⟨?_,fun c hc=>?_,?_⟩
 ·unfold cK;simp only [length_append,length_singleton];omega
 ·unfold cK at hc;rcases List.mem_append.mp hc with hc | hc
  ·rcases List.mem_append.mp hc with hc | hc
   ·have:=h2 c hc;omega
   ·rw [List.mem_singleton.mp hc];exact tV cell
  ·have:=t2 c hc;omega
 ·unfold cK;simp
theorem xU (c:Int):ag [gY c] = if (c / 144 % 8 == 7) = true then ag [(c / 1152 % 55296).toNat] else ag [kz c]:=by
 unfold gY;by_cases h:c / 144 % 8 = 7
 ·rw [if_pos h,if_pos (by simp [h])]
 ·rw [if_neg h,if_neg (by simp [h])]
theorem lt5:∀ k,k < 5->k = 0 \/ k = 1 \/ k = 2 \/ k = 3 \/ k = 4:=by decide
theorem lt3:∀ k,k < 3->k = 0 \/ k = 1 \/ k = 2:=by decide
theorem yD (k:Nat) (h:k < 5):0 < (4:Int) ^ k /\ (4:Int) ^ k < 1073741824:=by
 rcases lt5 k h with rfl | rfl | rfl | rfl | rfl <;> decide
noncomputable def aG (ts:List (List Nat)):Prop:=∀ t ∈ ts,t.length <= 4 /\ (∀ c ∈ t,c < 55296) /\ t ≠ []
theorem aG.cp (h:aG ts):∀ t ∈ ts,fO t:=fun t ht c hc=>by have:=(h t ht).2.1 c hc;omega
theorem kf (cs:List Int) (p:Int × Nat) (h:cs.length = 6):(g8 cs p).length = 6:=by simp [g8,wK,h]
theorem oj:∀ (l:List (Int × Nat)) (cs:List Int),cs.length = 6->(l.foldl g8 cs).length = 6
 | [],_,h=>h
 | p :: l,cs,h=>oj l _ (kf cs p h)
theorem kP (script:List Int):(aD script).length = 6:=oj _ _ rfl
theorem kY (c:Int) (h:aG ts):aG (cb ts c):=fun t ht=>by
 unfold cb at ht;split at ht
 ·exact h t ht
 ·rcases List.mem_append.mp ht with ht | ht
  ·exact h t ht
  ·rw [List.mem_singleton.mp ht];exact n6 c
theorem ko (c:Int):(cb ts c).length <= ts.length + 1:=by
 unfold cb;split <;> simp
theorem kX:∀ (l:List Int) (ts:List (List Nat)),aG ts->ts.Nodup->aG (l.foldl cb ts) /\ (l.foldl cb ts).Nodup /\ (l.foldl cb ts).length <= ts.length + l.length
 | [],ts,h,hn=>⟨h,hn,Nat.le_refl _⟩
 | c :: l,ts,h,hn=>by
  have nd:(cb ts c).Nodup:=by
   unfold cb;split
   ·exact hn
   ·rename_i hm;rw [List.nodup_append];exact ⟨hn,by simp,fun a ha b hb=>by rw [List.mem_singleton.mp hb];exact fun q=>hm (q ▸ ha)⟩
  obtain ⟨a,b,d⟩:=kX l _ (kY c h) nd;refine ⟨a,b,Nat.le_trans d ?_⟩
  have:=ko (ts:=ts) c;rw [length_cons];omega
theorem i4 (script:List Int):aG (fE (aD script)) /\ (fE (aD script)).Nodup /\ (fE (aD script)).length <= 5:=by
 obtain ⟨a,b,c⟩:=kX ((aD script).drop 1) [] (fun _ h=>nomatch h) .nil
 refine ⟨a,b,Nat.le_trans c ?_⟩
 rw [length_drop,kP];exact Nat.le_refl _
theorem uJ (hW:Wok W T) {x:Str} {pa:Pos} {d0 d1:D} (ht:TST W T n env μ test b) (hx:μ x = some d0) (he:b = true->EVP W T n env μ e d1) (hd:d = if b then d1 else d0) (hk:Sto env x = true)
  (hs:autoParam (swapsWith e (some (.Name x px)) pa.line env = pure false) rfT):EX W T n env μ Θ (exec (.If test [.Assign [.Name x px] e pa] [] pos) env) (.nxt (upd μ x d) Θ):=by
 refine gf (be.refl _ _) ht (fun h=>?_) fun h=>?_
 ·rw [hd,if_pos h];exact ae (b6 hW (he h) hk hs) ar
 ·rw [hd,if_neg (by rw [h];exact Bool.false_ne_true),pf hx]
  exact ar
theorem dm {n:Nat} {μ:Str->Option D} {ι σ:Type} {tgt:Expr} {body:List Stmt} (g:ι->D) (f:σ->ι->σ) (Θof:σ->List ac) (Inv:Nat->σ->Prop):∀ (is:List ι) (st:σ),
  (∀ st i k,i ∈ is->Inv (k + 1) st->Inv k (f st i) /\ ∃ μ1 μ2,ASG W T n env tgt (g i) μ μ1 /\ EX W T n env μ1 (Θof st) (execs body env) (.nxt μ2 (Θof (f st i))) /\ bS μ μ2)->Inv is.length st->
  LP W T n env tgt body (is.map g) μ (Θof st) (.nxt μ (Θof (is.foldl f st)))
 | [],_,_,_=>.nil
 | i :: is,st,h,hi=>by
  obtain ⟨h1,μ1,μ2,a,e,s⟩:=h st i is.length (.head _) hi;exact .cons a (e.sub s) (dm g f Θof Inv is (f st i) (fun st' j k hj=>h st' j k (.tail _ hj)) h1)
theorem qp (l:List Int) (k:Nat):(l.map D.int).take k = (l.take k).map .int:=by rw [List.map_take]
theorem qt (l:List Int) (k:Nat):(l.map D.int).drop k = (l.drop k).map .int:=by rw [map_drop]
theorem tP (l:List Int) (k:Nat):gM ((l.map D.int).take k) = (l.take k).zipIdx.map fun p=>.tup [.int p.2,.int p.1]:=by rw [qp,vy]
theorem g6:∀ l:List Int,D.nrL (l.map .int) = true
 | []=>rfl
 | i :: l=>by rw [map_cons,D.nrL,g6 l];rfl
theorem cR:∀ l:List (List Nat),D.nrL (l.map ag) = true
 | []=>rfl
 | i :: l=>by rw [map_cons,D.nrL,cR l];rfl
set_option maxHeartbeats 0 in
theorem wm (hW:Wok W T) (hK:W.K = hd.heap_39 P) (script:List Int) (hlen:script.length <= 1000) :
  FP W T 3 (.ref 195) [.list (script.map .int)] (.tup [.list ((c8 (aD script)).map .int),.list ((fE (aD script)).map ag)]):=by
 refine dH hW (by rw [hK];with_unfolding_all rfl) rfl (by rw [hK];with_unfolding_all rfl) rfl rfl rfl (names:=[Str.ofString "script"]) (vs1 fun _=>rfl) (by decide +kernel) (by decide +kernel) ?_ ?_ ?_ (fun L=>?_) (Θ':=[.gone,.gone,.gone])
 ·simp [D.nrL,D.nr,g6]
 ·rfl
 ·simp [D.nrL,D.nr,g6,cR]
 refine ae (cL hW (cm hW (af aq (af aq (af aq (af aq (af aq (af aq ak)))))) (by decide)) rfl rfl) ?_
 refine ae (dJ (ITR.eq (wy hW (oT hK rfl) (w6 hW (aa rfl rfl) aq (by rw [length_map];omega)) rfl) (tP script 60))
  (nu (fun p:Int × Nat=>.tup [.int p.2,.int p.1]) g8 (fun cs=>[.mlist (cs.map .int)]) (fun cs=>cs.length = 6) (script.take 60).zipIdx [21,0,4,8,32,12] (fun cs p _ hi=>⟨kf cs p hi,_,_,eT hW rfl rfl,?_,e9 (x:=Str.ofString "k") (y:=Str.ofString "x") (d:=.int p.2) (e:=.int p.1) rfl rfl⟩) rfl) rfl) ?_
 ·have h6:p.2 % 6 < cs.length:=by omega
  refine ae (EX.eqT (l9 hW (i:=0) (k:=p.2 % 6) (a:=cs.getD (p.2 % 6) 0) (b:=p.1 % 63700992) rfl rfl (be.refl _ _) (EVP.eq (av (aa rfl rfl) aq (cg (by decide))) rfl) ?_ (by omega)
   (av (aa rfl rfl) aq (cg (by decide))) rfl) ?_) ar
  ·rw [getElem?_map,bc cs 0 h6];rfl
  ·show [ac.mlist ((cs.map D.int).set (p.2 % 6) _)] = [ac.mlist ((cs.set (p.2 % 6) _).map D.int)];rw [map_set]
 have hc6:(aD script).length = 6:=kP script;have e0:((aD script).map D.int)[(0:Int).toNat]? = some (.int ((aD script).getD 0 0)):=by
  rw [getElem?_map];show ((aD script)[0]?).map D.int = _;rw [bc (aD script) 0 (by omega)];rfl
 refine EX.freeze (x:=Str.ofString "cells") (i:=0) (ds:=(aD script).map .int) rfl rfl ?_
 refine ae (vR hW (is:=List.range 5) (g:=fun i=>.int (i:Int)) (fun i=>upd (seen _ _) (Str.ofString "k") (.int (i:Int))) (fun _=>true) (fun k=>.int ((aD script).getD 0 0 / 4 ^ k % 4))
  (ITR.eq (dS hW (cO hK rfl) aq (by decide) (by decide) rfl) (fU 5)) (cc rfl rfl rfl rfl) (fun _ _ _=>rfl) (fun L i _=>ay hW rfl) (fun i _=>aJ rfl) (fun L i _=>d9)
  (fun L' i hi _=>av (av (bZ (aa rfl rfl) aq (by decide) e0 (by decide)) (av aq (aa rfl rfl) (sX (by decide) (by have:=List.mem_range.mp hi;omega)))
   (eG (yD i (List.mem_range.mp hi)).1 (yD i (List.mem_range.mp hi)).2)) aq (cg (by decide))) (by decide) rfl) ?_
 refine EX.preT (Θ'':=[.gone,.mlist ((cQ (aD script)).map .int)]) ?_ (by
  show _ = [ac.gone] ++ [ac.mlist (((List.range 5).filter fun _=>true).map fun k=>D.int ((aD script).getD 0 0 / 4 ^ k % 4))]
  rw [List.filter_eq_self.mpr (fun _ _=>rfl),cQ,map_map];rfl)
 refine ae (EX.eqT (Θ'':=[.gone,.mlist ((c8 (aD script)).map .int)]) (l9 hW (i:=1) (k:=0) (a:=(cQ (aD script)).getD 0 0) (b:=1 - (cQ (aD script)).sum % 2) rfl rfl (dW (x:=Str.ofString "votes") (i:=1) rfl rfl) aq ?_ (by decide)
  (av aq (av (a7 hW (iJ hK rfl) (af (aa rfl rfl) ak) (jY hW) rfl) aq (cg (by decide))) gP) rfl) ?_) ?_
 ·rw [getElem?_map,bc (cQ (aD script)) 0 (by simp [cQ])];rfl
 ·show [ac.gone,ac.mlist (((cQ (aD script)).map D.int).set 0 _)] = _;rw [c8,map_set]
 refine ae (cL hW (cm hW ak (by decide)) rfl rfl) ?_
 refine ae (dJ (ITR.eq (bw hW (rx hW (aa rfl rfl) aq (by rw [length_map,hc6];decide)) rfl) (qt (aD script) 1))
  (dm D.int cb (fun ts=>[.gone,.mlist ((c8 (aD script)).map .int),.mlist (ts.map ag)]) (fun k ts=>aG ts /\ ts.length + k <= 5) ((aD script).drop 1) [] (fun ts c k _ hi=>⟨⟨kY c hi.1,?_⟩,_,_,ay hW rfl,?_,bx (bx (bx (aJ (x:=Str.ofString "cell") (d:=.int c) rfl) (x:=Str.ofString "sign") (d:=ag [kz c]) (.inr rfl)) (x:=Str.ofString "sign") (d:=ag [gY c]) (.inr rfl)) (x:=Str.ofString "text") (d:=ag (cK c)) (.inr rfl)⟩) ⟨(fun _ h=>nomatch h),?_⟩) rfl) ?_
 ·have:=ko (ts:=ts) c;omega
 ·have k12:(c / 4 % 12).toNat < gQ.length:=by show _ < 12;omega
  refine ae (b6 hW (iF (l:=gQ) (c:=kz c) (EVP.eq bl rfl) (av (av (aa rfl rfl) aq (eG (by decide) (by decide))) aq (cg (by decide))) (by omega) (bc gQ 0 k12) (by decide)) rfl rfl) ?_
  refine ae (uJ hW (d:=ag [gY c]) (au (av (av (aa rfl rfl) aq (eG (by decide) (by decide))) aq (cg (by decide))) aq dE) rfl
   (fun _=>a7 hW (xZ hK rfl) (af (av (av (aa rfl rfl) aq (eG (by decide) (by decide))) aq (cg (by decide))) ak) (yJ (by omega) (by omega)) rfl) (xU c) rfl rfl) ?_
  obtain ⟨tl,tc,tn⟩:=n6 c;have hh:(hY.map ag)[(c % 4).toNat]? = some (ag (hY.getD (c % 4).toNat [])):=by rw [getElem?_map,bc hY [] (by show _ < 4;omega)];rfl
  have ht:(g5.map ag)[(c / 48 % 3).toNat]? = some (ag (g5.getD (c / 48 % 3).toNat [])):=by rw [getElem?_map,bc g5 [] (by show _ < 3;omega)];rfl
  have lh:(hY.getD (c % 4).toNat []).length + 1 + (g5.getD (c / 48 % 3).toNat []).length <= 4:=by
   have:=tl;unfold cK at this;rw [length_append,length_append,length_singleton] at this;exact this
  refine ae (b6 hW (EVP.eq (av (av (bZ (aY hW (af bl (af bl (af bl (af bl ak)))) (by decide)) (av (aa rfl rfl) aq (cg (by decide))) (by omega) hh (by omega)) (aa rfl rfl) (mu (by omega) (by simp)))
   (bZ (aY hW (af bl (af bl (af bl ak))) (by decide)) (av (av (aa rfl rfl) aq (eG (by decide) (by decide))) aq (cg (by decide))) (by omega) ht (by omega)) (mu (by rw [length_append,length_singleton];omega) (by omega))) (b':=ag (cK c)) rfl) rfl rfl) ?_
  refine ae (gf (dW (x:=Str.ofString "texts") (i:=2) rfl rfl) (TST.eq (au (aa rfl rfl) (aa rfl rfl) (iy (a8 (fun x hx=>by have:=tc x hx;omega)).fine (aH hi.1.cp).fine)) (congrArg not (eE ts (cK c)))) (fun hb=>?_) (fun hb=>?_)) ar
  ·have hm:cK c ∉ ts:=by simpa using hb
   exact ae (EX.eqT (fg hW (i:=2) rfl rfl (by rw [length_map];omega) (aa rfl rfl) rfl) (by rw [cb,if_neg hm,map_append];rfl)) ar
  ·have hm:cK c ∈ ts:=by simpa using hb
   exact EX.eqT ar (by rw [cb,if_pos hm])
 ·rw [length_drop,hc6];decide
 exact aM (cy (ud (x:=Str.ofString "votes") (i:=1) (y:=Str.ofString "texts") (j:=2) rfl rfl rfl rfl) (hV hW (af (aa rfl rfl) (af (aa rfl rfl) ak)) (by show 2 <= 1000;decide))) rfl
noncomputable def a5 (t:List Nat):List (List Nat):=[aI iX t,aI jb t,aI dL t,aI cJ t,aI ky t]
noncomputable def jE (x y:List Nat):Int:=b2i (decide (y < x)) - b2i (decide (x < y))
noncomputable def eh (votes:List Int) (mine other:List (List Nat)):Int:=((List.range 5).map fun k=>votes.getD k 0 * jE (mine.getD k []) (other.getD k [])).sum
noncomputable def aP (votes:List Int) (texts:List (List Nat)):List (List (List Nat)):=texts.map fun t=>texts.filter fun o=>decide (0 < eh votes (a5 t) (a5 o))
theorem jc {α β:Type} (f:α->β) (p:β->Bool):∀ xs:List α,((xs.zip (xs.map f)).filter fun q=>p q.2).map (·.1) = xs.filter fun x=>p (f x)
 | []=>rfl
 | x :: xs=>by
  have ih:=jc f p xs;simp only [map_cons,List.zip_cons_cons,filter_cons];split
  ·rw [map_cons,ih]
  ·exact ih
theorem fh {α β:Type} (f:α->β):∀ (xs:List α) (ys:List β),xs.foldl (fun rs t=>rs ++ [f t]) ys = ys ++ xs.map f
 | [],ys=>by simp
 | x :: xs,ys=>by rw [foldl_cons,fh f xs,append_assoc];rfl
theorem xI (votes:List Int) (t u:List Nat):(((List.range 5).filter fun _=>true).map fun k=>D.int (votes.getD k 0 * jE ((a5 t).getD k []) ((a5 u).getD k []))) = ((List.range 5).map fun k=>votes.getD k 0 * jE ((a5 t).getD k []) ((a5 u).getD k [])).map .int:=by
 rw [List.filter_eq_self.mpr fun _ _=>rfl,map_map];rfl
theorem yf (votes:List Int) (texts:List (List Nat)) (t:List Nat):fi (texts.map ag) (((texts.map a5).filter fun _=>true).map fun q=>.int (eh votes (a5 t) q)) = (texts.zip (texts.map fun o=>eh votes (a5 t) (a5 o))).map fun p=>.tup [ag p.1,.int p.2]:=by
 rw [List.filter_eq_self.mpr fun _ _=>rfl,<- m6 ag D.int]
 simp only [map_map];rfl
theorem y0 (votes:List Int) (texts:List (List Nat)) (t:List Nat):(((texts.zip (texts.map fun o=>eh votes (a5 t) (a5 o))).filter fun p=>decide (0 < p.2)).map fun p=>ag p.1) = (texts.filter fun o=>decide (0 < eh votes (a5 t) (a5 o))).map ag:=by
 rw [<- jc (fun o=>eh votes (a5 t) (a5 o)) (fun x=>decide (0 < x)) texts,map_map];rfl
structure iP (v:List Int):Prop where
 len:v.length = 5
 pos:∀ x ∈ v,0 <= x
 lt:∀ x ∈ v,x < 1000
theorem xY (x y:List Nat):-1 <= jE x y /\ jE x y <= 1:=by
 unfold jE;cases decide (y < x) <;> cases decide (x < y) <;> decide
theorem q7 {α:Type} (l:List α):(l.filter fun _=>true) = l:=List.filter_eq_self.mpr fun _ _=>rfl
theorem nI (l:List (List Nat)) (h:k < l.length):(l.map ag)[((k:Int)).toNat]? = some (ag (l.getD k [])):=by
 rw [Int.toNat_natCast,getElem?_map,bc l [] h];rfl
theorem rO (l:List Int) (h:k < l.length):(l.map D.int)[((k:Int)).toNat]? = some (.int (l.getD k 0)):=by
 rw [Int.toNat_natCast,getElem?_map,bc l 0 h];rfl
theorem ke:∀ l:List (List (List Nat)),(D.list (l.map fun l=>.list (l.map ag))).nr = true
 | []=>rfl
 | i :: l=>by
  have:=ke l;rw [D.nr] at this ⊢;rw [map_cons,D.nrL,this,D.nr,cR];rfl
set_option maxHeartbeats 0 in
theorem ve (hW:Wok W T) (hK:W.K = hd.heap_39 P) (votes:List Int) (texts:List (List Nat)) (hv:iP votes) (ht:aG texts) (hl:texts.length <= 5) :
  FP W T 3 (.ref 200) [.list (votes.map .int),.list (texts.map ag)] (.list ((aP votes texts).map fun l=>.list (l.map ag))):=by
 refine dH hW (by rw [hK];with_unfolding_all rfl) rfl (by rw [hK];with_unfolding_all rfl) rfl rfl rfl (names:=[Str.ofString "votes",Str.ofString "texts"]) (vs2 fun _ _=>rfl) (by decide +kernel) (by decide +kernel) ?_ ?_ ?_ (fun L=>?_) (Θ':=[.gone,.gone])
 ·simp [D.nrL,D.nr,g6,cR]
 ·rfl
 ·exact ke _
 refine ae (cL hW (cm hW ak (by decide)) rfl rfl) ?_
 refine ae (dJ (bw hW (aa rfl rfl) rfl)
  (dm ag (fun (rs:List (List (List Nat))) t=>rs ++ [a5 t]) (fun rs=>[.mlist (rs.map fun r=>.list (r.map ag))]) (fun k rs=>rs.length + k <= 5) texts [] (fun rs t k hm hi=>⟨by rw [length_append,length_singleton];omega,_,_,ay hW rfl,?_,aJ (x:=Str.ofString "text") (d:=ag t) rfl⟩) (by simpa using hl)) rfl) ?_
 ·obtain ⟨tl,tc,tn⟩:=ht t hm;refine ae (EX.eqT (fg hW (i:=0) rfl rfl (by rw [length_map];omega) (aY hW (af (bG hW (.top rfl (by rw [hK];with_unfolding_all rfl)) (by rw [hK];with_unfolding_all rfl) (af (aa rfl rfl) ak) (ww hW hK t tl))
   (af (bG hW (.top rfl (by rw [hK];with_unfolding_all rfl)) (by rw [hK];with_unfolding_all rfl) (af (aa rfl rfl) ak) (wQ hW hK t tl))
   (af (bG hW (.top rfl (by rw [hK];with_unfolding_all rfl)) (by rw [hK];with_unfolding_all rfl) (af (aa rfl rfl) ak) (tS hW hK t tl))
   (af (bG hW (.top rfl (by rw [hK];with_unfolding_all rfl)) (by rw [hK];with_unfolding_all rfl) (af (aa rfl rfl) ak) (qT hW hK t tl))
   (af (bG hW (.top rfl (by rw [hK];with_unfolding_all rfl)) (by rw [hK];with_unfolding_all rfl) (af (aa rfl rfl) ak) (wW hW hK t tl)) ak))))) (by show 5 <= 1000;decide)) rfl) ?_) ar
  show [ac.mlist (_ ++ [_])] = _;rw [map_append];rfl
 have eR:texts.foldl (fun (rs:List (List (List Nat))) t=>rs ++ [a5 t]) [] = texts.map a5:=fh a5 texts []
 refine EX.freeze (x:=Str.ofString "rows") (i:=0) (ds:=(texts.map a5).map fun r=>.list (r.map ag)) rfl (by rw [eR];rfl) ?_
 refine ae (cL hW (cm hW ak (by decide)) rfl rfl) ?_
 refine ae (dJ (bw hW (aa rfl rfl) rfl)
  (dm (fun r:List (List Nat)=>.list (r.map ag)) (fun (ah:List (List (List Nat))) r=>ah ++ [texts.filter fun o=>decide (0 < eh votes r (a5 o))]) (fun ah=>[.gone,.mlist (ah.map fun l=>.list (l.map ag))]) (fun k ah=>ah.length + k <= 5) (texts.map a5) [] (fun ah r k hm hi=>
   ⟨by rw [length_append,length_singleton];omega,_,_,ay hW rfl,?_,bx (aJ (x:=Str.ofString "mine") (d:=.list (r.map ag)) rfl) (x:=Str.ofString "sums") (d:=.list (((texts.map a5).filter fun _=>true).map fun q=>.int (eh votes r q))) (.inr rfl)⟩) (by simpa using hl)) rfl) ?_
 ·obtain ⟨t,hmt,rfl⟩:=List.mem_map.mp hm;refine ae (kg hW (is:=texts.map a5) (g:=fun r=>.list (r.map ag)) (fun q=>upd (seen _ _) (Str.ofString "other") (.list (q.map ag))) (fun _=>true) (fun q=>.int (eh votes (a5 t) q)) (bw hW (aa rfl rfl) rfl) (cc rfl rfl rfl rfl) (fun _ _ _=>rfl) (fun L q _=>ay hW rfl) (fun q _=>aJ rfl) (fun L q _=>d9)
   (fun L' q hq _=>?_) (by rw [length_map];omega) rfl) ?_
  ·obtain ⟨u,hu,rfl⟩:=List.mem_map.mp hq;refine a7 hW (iJ hK rfl) (af (EVF.ev (EVF.eq (bW hW (is:=List.range 5) (g:=fun i=>.int (i:Int)) (fun i=>upd (seen _ _) (Str.ofString "k") (.int (i:Int))) (fun _=>true) (fun k=>.int (votes.getD k 0 * jE ((a5 t).getD k []) ((a5 u).getD k [])))
    (ITR.eq (dS hW (cO hK rfl) aq (by decide) (by decide) rfl) (fU 5)) (cc rfl rfl rfl rfl) (fun _ _ _=>rfl) (fun L i _=>ay hW rfl) (fun i _=>aJ rfl) (fun L i _=>d9) (fun L'' k hk _=>?_) (by decide)) (xI votes t u))) ak) (jY hW) rfl
   have hk5:k < 5:=List.mem_range.mp hk;have hvk:k < votes.length:=by rw [hv.len];exact hk5
   have bd:=xY ((a5 t).getD k []) ((a5 u).getD k []);have p1:=hv.pos _ (aF votes k 0 hvk);have p2:=hv.lt _ (aF votes k 0 hvk);exact av (bZ (aa rfl rfl) (aa rfl rfl) (Int.natCast_nonneg k) (rO votes hvk) (by omega))
    (bG hW (.top rfl (by rw [hK];with_unfolding_all rfl)) (by rw [hK];with_unfolding_all rfl) (af (bZ (aa rfl rfl) (aa rfl rfl) (Int.natCast_nonneg k) (nI (a5 t) hk5) (by omega)) (af (bZ (aa rfl rfl) (aa rfl rfl) (Int.natCast_nonneg k) (nI (a5 u) hk5) (by omega)) ak)) (yj hW hK _ _))
    (mS (by omega) (by omega) (Int.lt_of_lt_of_le (by decide) bd.1) (Int.lt_of_le_of_lt bd.2 (by decide)))
  refine ae (EX.eqT (fg hW (i:=1) rfl rfl (by rw [length_map];omega) (EVF.ev (EVF.eq (bW hW (is:=texts.zip (texts.map fun o=>eh votes (a5 t) (a5 o))) (g:=fun p=>.tup [ag p.1,.int p.2]) (fun p=>upd (upd (seen _ _) (Str.ofString "one") (ag p.1)) (Str.ofString "more") (.int p.2)) (fun p=>decide (0 < p.2)) (fun p=>ag p.1)
   (ITR.eq (iW hW (iK hK rfl) (aa rfl rfl) (aa rfl rfl) rfl) (yf votes texts t)) (cc rfl rfl rfl rfl) (fun _ _ _=>rfl) (fun L p _=>eT hW rfl rfl) (fun p _=>e9 rfl rfl) (fun L p _=>bK (au (aa rfl rfl) aq bU)) (fun L p _ _=>aa rfl rfl) (by rw [length_zip,length_map];omega))
   (y0 votes texts t))) rfl) ?_) ar
  show [ac.gone,ac.mlist (_ ++ [_])] = _;rw [map_append];rfl
 have eA:(texts.map a5).foldl (fun (ah:List (List (List Nat))) r=>ah ++ [texts.filter fun o=>decide (0 < eh votes r (a5 o))]) [] = aP votes texts:=by
  rw [fh (fun r=>texts.filter fun o=>decide (0 < eh votes r (a5 o)))]
  simp [aP]
 refine EX.ret_eq (aM (cy (dW (x:=Str.ofString "ahead") (i:=1) rfl rfl) (aa rfl rfl)) rfl) (by rw [eA])
section
open PySem.SeqAt
noncomputable def dh (p:Int × Int):D:=.tup [.int p.1,.int p.2]
noncomputable def fN (ps:List (Int × Int)):D:=.list (ps.map dh)
noncomputable def bX (p q:Int × Int):Bool:=if p.1 = q.1 then decide (p.2 < q.2) else decide (p.1 < q.1)
noncomputable def ltP:List (Int × Int)->List (Int × Int)->Bool
 | [],[]=>false
 | [],_ :: _=>true
 | _ :: _,[]=>false
 | p :: ps,q :: qs=>if p = q then ltP ps qs else bX p q
theorem pz (ps qs:List (Int × Int)):∀ (k i:Nat),min ps.length qs.length - i = k->i <= min ps.length qs.length->
  eW (fun j=>decide (ps.getD j (0,0) = qs.getD j (0,0))) (fun j=>bX (ps.getD j (0,0)) (qs.getD j (0,0))) ps.length qs.length k i = ltP (ps.drop i) (qs.drop i)
 | 0,i,hk,hi=>by
  rw [eW];have:i = min ps.length qs.length:=by omega
  rcases Nat.lt_trichotomy ps.length qs.length with h | h | h
  ·have e1:ps.drop i = []:=drop_of_length_le (by omega)
   have hlt:i < qs.length:=by omega
   rw [e1,drop_eq_getElem_cons hlt,ltP];simp [h]
  ·rw [drop_of_length_le (by omega),drop_of_length_le (by omega),ltP]
   simp [h]
  ·have hlt:i < ps.length:=by omega
   rw [drop_eq_getElem_cons hlt,drop_of_length_le (l:=qs) (by omega),ltP]
   simp;omega
 | k + 1,i,hk,hi=>by
  have h1:i < ps.length:=by omega
  have h2:i < qs.length:=by omega
  rw [eW,pz ps qs k (i + 1) (by omega) (by omega),drop_eq_getElem_cons h1,drop_eq_getElem_cons h2,ltP]
  have e1:ps.getD i (0,0) = ps[i]:=by simp [List.getD,h1]
  have e2:qs.getD i (0,0) = qs[i]:=by simp [List.getD,h2]
  simp only [e1,e2];by_cases h:ps[i] = qs[i]
  ·rw [if_pos h,if_pos (decide_eq_true h)]
  ·rw [if_neg h,if_neg (by simpa using h)]
theorem qR {A:Around} {s:Shared} (a b:Int) (t u:Tok):pZ A s (.int a t) (.int b u) (decide (a < b)):=fun prog w E Q h=>
 show wpAny (model prog w) A (compareOp .Lt (.int a t) (.int b u)) Q E s from PyProof.Rows.lt_int h
theorem o9 {A:Around} {s:Shared} (a b:Int) (t u:Tok) (hu:A.units < cLine):EqAt A s (.int a t) (.int b u) (decide (a = b)):=by
 have:=eqAt_reads (.int a) (.int b) A s _ _ [] [] (.int a t) (.int b u) (by rw [PyData.canLay0]) (by rw [PyData.canLay0]) (by rw [PyData.depth,PyData.depth];simpa using hu)
 have e:PyData.eqv (.int a) (.int b) = decide (a = b):=iL a b;rw [e] at this;exact this
theorem Den.pair {h:Heap} {O:List Addr} {M:Addr->Prop} {v:Value} {p:Int × Int} (d:Den h O M v (dh p)):∃ a t u n,v = .ref a /\ h.get? a = some { cls:=.type "tuple",data:=.seq #[.int p.1 t,.int p.2 u] n }:=by
 unfold dh at d
 induction d using tE with
 | tup pl nm dl=>
 induction dl using kE with
 | cons d1 dl=>
 induction dl using kE with
 | cons d2 dl=>
 induction dl using qE;induction d1 using iE;induction d2 using iE;obtain ⟨n,e⟩:=pl;exact ⟨_,_,_,n,rfl,e⟩
theorem zT (a b c d:Int):eW (fun j=>if j = 0 then decide (a = c) else decide (b = d)) (fun j=>if j = 0 then decide (a < c) else decide (b < d)) 2 2 2 0 = bX (a,b) (c,d):=by
 simp only [eW,bX];by_cases h:a = c
 ·by_cases h':b = d
  ·subst h h';simp
  ·subst h;simp [h']
 ·simp [h]
theorem uU {A:Around} {s:Shared} {O:List Addr} {M:Addr->Prop} {x y:Value} {p q:Int × Int} (hu:A.units + 4 < cLine) (dx:Den s.heap O M x (dh p)) (dy:Den s.heap O M y (dh q)):pZ A s x y (bX p q):=by
 obtain ⟨a,t,u,n,rfl,ea⟩:=dx.pair;obtain ⟨b,t',u',n',rfl,eb⟩:=dy.pair;intro prog w E Q h;refine richCompare_meets_room (T := "tuple") ⟨_,ea,rfl⟩ ⟨_,eb,rfl⟩ F.slot_tuple_lt F.entry_tuple_lt (F.args_tuple_lt_2 _ _)
  (sj a b _ _ n n' none none #[] #[] (fun j=>if j = 0 then decide (p.1 = q.1) else decide (p.2 = q.2)) (fun j=>if j = 0 then decide (p.1 < q.1) else decide (p.2 < q.2))) ⟨ea,eb,fun j h1 h2=>?_,?_⟩ (by omega)
 ·have h1':j < 2:=h1;have:j = 0 \/ j = 1:=by omega
  rcases this with rfl | rfl
  ·exact ⟨o9 _ _ _ _ (by show A.units + 1 < _;omega),qR _ _ _ _⟩
  ·exact ⟨o9 _ _ _ _ (by show A.units + 1 < _;omega),qR _ _ _ _⟩
 ·have e:=zT p.1 p.2 q.1 q.2;refine ⟨(fun z=>nomatch z),?_⟩
  show Q (.bool (eW _ _ 2 2 2 0)) s;rw [e];exact h
theorem fv (p:Int × Int):cV 1 (dh p):=ig fun d hd=>by
 rcases List.mem_cons.mp hd with rfl | hd
 ·exact cu _
 ·rw [List.mem_singleton.mp hd];exact cu _
theorem wu (p q:Int × Int):(dh p).eqv (dh q) = decide (p = q):=by
 have:=nz D.int iL [p.1,p.2] [q.1,q.2];have e:(dh p).eqv (dh q) = (D.tup ([p.1,p.2].map D.int)).eqv (.tup ([q.1,q.2].map D.int)):=rfl;rw [e,this];refine decide_eq_decide.mpr ⟨fun h=>?_,fun h=>by rw [h]⟩
 simp at h
 exact Prod.ext h.1 h.2
theorem ut {prog:Program} {w:World} {A:Around} {E:Value->Shared->Prop} {s:Shared} {O:List Addr} {M:Addr->Prop} {x y:Value} {ps qs:List (Int × Int)} {Q:Bool->Shared->Prop} (hu:A.units + 30 < cLine) (dx:Den s.heap O M x (fN ps)) (dy:Den s.heap O M y (fN qs))
  (h:Q (ltP ps qs) s):wpAny (model prog w) A (keyLt' oneType' x y) Q E s:=by
 unfold fN at dx dy
 induction dx using lE with
 | list pl nm dl=>
 induction dy using lE with
 | list pl' nm' dl'=>
 rename_i a vs b ws;obtain ⟨n,ea⟩:=pl;obtain ⟨n',eb⟩:=pl';have l1:=dl.length;have l2:=dl'.length;rw [length_map] at l1 l2;rw [keyLt'_oneType,oneLt'_eq];simp only [if_true];refine wpAny_bind (wpAny_cRoomFor (by omega) ?_)
 refine wpAny_bind (wpAny_callSpecialIfBound?_slot (T := "list") (id := "list.__lt__") ⟨_,ea,rfl⟩ F.slot_list_lt (call_meets F.slot_list_lt ⟨_,ea,rfl⟩ F.entry_list_lt (F.args_list_lt_2 _ _)
  (tz a b vs.toArray ws.toArray n n' none none #[] #[] (fun j=>decide (ps.getD j (0,0) = qs.getD j (0,0))) (fun j=>bX (ps.getD j (0,0)) (qs.getD j (0,0)))) ⟨ea,eb,fun j h1 h2=>?_,?_⟩))
 ·have h1':j < vs.length:=by simpa using h1
  have h2':j < ws.length:=by simpa using h2
  have g1:(ps.map dh)[j]? = some (dh (ps.getD j (0,0))):=by simp [List.getD,l1 ▸ h1']
  have g2:(qs.map dh)[j]? = some (dh (qs.getD j (0,0))):=by simp [List.getD,l2 ▸ h2']
  obtain ⟨v,e1,d1⟩:=dl.get j _ g1;obtain ⟨u,e2,d2⟩:=dl'.get j _ g2;have ev:vs.toArray[j] = v:=by simpa [h1'] using e1
  have eu:ws.toArray[j] = u:=by simpa [h2'] using e2
  rw [ev,eu];refine ⟨?_,uU (by show A.units + 1 + 4 < _;omega) d1 d2⟩
  obtain ⟨as,ra⟩:=d1.reads (fv _).nr;obtain ⟨bs,rb⟩:=d2.reads (fv _).nr;have:=eqAt_reads _ _ A.in1 s v u as bs ra rb (fv _).lay (fv _).lay (by have:=(fv (ps.getD j (0,0))).dep;show A.units + 1 + _ < _;omega)
  have e:=wu (ps.getD j (0,0)) (qs.getD j (0,0));unfold D.eqv at e;rw [e] at this;exact this
 ·have e:=pz ps qs (min ps.length qs.length) 0 (by omega) (zero_le _)
  show wpAny (model prog w) A (truthOfDropped (.bool (eW _ _ vs.toArray.size ws.toArray.size (min vs.toArray.size ws.toArray.size) 0))) Q E s;have s1:vs.toArray.size = ps.length:=by simp [l1]
  have s2:ws.toArray.size = qs.length:=by simp [l2]
  rw [s1,s2,e];exact wpAny_truthy_bool h
end
noncomputable def kev {α:Type} (c:Nat->Nat->Bool):KasT α->α
 | .ret a=>a
 | .ask i j k=>kev c (k (c i j))
noncomputable def kin {α:Type} (n:Nat) (c:Nat->Nat->Bool):KasT α->Bool
 | .ret _=>true
 | .ask i j k=>decide (i < n) && (decide (j < n) && kin n c (k (c i j)))
noncomputable def gl (m:Nat):Nat->List (List Nat)
 | 0=>[[]]
 | k + 1=>(List.range m).flatMap fun x=>(gl m k).map (x :: ·)
noncomputable def fJ (n:Nat) (l:List Nat):Bool:=!decide l.Nodup || (kin n (fun i j=>decide (l.getD i 0 < l.getD j 0)) (kas_sort n) && decide ((kev (fun i j=>decide (l.getD i 0 < l.getD j 0)) (kas_sort n)).toList.map (l.getD · 0) = List.range n) && (kev (fun i j=>decide (l.getD i 0 < l.getD j 0)) (kas_sort n)).toList.all (· < n))
theorem zC:(gl 2 2).all (fJ 2) = true:=by decide +kernel
theorem zd:(gl 3 3).all (fJ 3) = true:=by decide +kernel
theorem zt:(gl 4 4).all (fJ 4) = true:=by decide +kernel
theorem zc:(gl 5 5).all (fJ 5) = true:=by decide +kernel
theorem oO (p:Int × Int):bX p p = false:=by simp [bX]
variable {q:Int × Int}
theorem pW {p r:Int × Int} (h1:bX p q = true) (h2:bX q r = true):bX p r = true:=by
 unfold bX at *;split at h1 <;> split at h2 <;> split <;> simp at * <;> omega
theorem qg {p:Int × Int} (h:p ≠ q):bX p q = true \/ bX q p = true:=by
 unfold bX;by_cases h1:p.1 = q.1
 ·have h2:p.2 ≠ q.2:=fun z=>h (Prod.ext h1 z)
  rw [if_pos h1,if_pos h1.symm];simp;omega
 ·rw [if_neg h1,if_neg (Ne.symm h1)];simp;omega
theorem i3:∀ ps,ltP ps ps = false
 | []=>rfl
 | p :: ps=>by rw [ltP,if_pos rfl];exact i3 ps
theorem oE:∀ {ps qs rs},ltP ps qs = true->ltP qs rs = true->ltP ps rs = true
 | [],[],_,h,_=>by simp [ltP] at h
 | [],_ :: _,[],_,h=>by simp [ltP] at h
 | [],_ :: _,_ :: _,_,_=>rfl
 | _ :: _,[],_,h,_=>by simp [ltP] at h
 | _ :: _,_ :: _,[],_,h=>by simp [ltP] at h
 | p :: ps,q :: qs,r :: rs,h1,h2=>by
  rw [ltP] at h1 h2 ⊢;by_cases e1:p = q
  ·subst e1;rw [if_pos rfl] at h1;by_cases e2:p = r
   ·rw [if_pos e2] at h2 ⊢;exact oE h1 h2
   ·rw [if_neg e2] at h2 ⊢;exact h2
  ·rw [if_neg e1] at h1;by_cases e2:q = r
   ·subst e2;rw [if_neg e1];exact h1
   ·rw [if_neg e2] at h2;have h3:=pW h1 h2;have e3:p ≠ r:=fun z=>by subst z;rw [oO] at h3;cases h3
    rw [if_neg e3];exact h3
theorem n7:∀ {ps qs:List (Int × Int)},ps ≠ qs->ltP ps qs = true \/ ltP qs ps = true
 | [],[],h=>absurd rfl h
 | [],_ :: _,_=>.inl rfl
 | _ :: _,[],_=>.inr rfl
 | p :: ps,q :: qs,h=>by
  rw [ltP,ltP];by_cases e:p = q
  ·subst e;rw [if_pos rfl,if_pos rfl];have hne:ps ≠ qs:=fun z=>h (by rw [z])
   exact n7 hne
  ·rw [if_neg e,if_neg (Ne.symm e)];exact qg e
theorem jR {α:Type} {p q:α->Bool} (hpq:∀ x,p x = true->q x = true):∀ {l:List α} {x:α},x ∈ l->q x = true->p x = false->l.countP p < l.countP q
 | y :: l,x,hm,hq,hp=>by
  have mono:∀ l:List α,l.countP p <= l.countP q:=fun l=>List.countP_mono_left fun y _ h=>hpq y h
  rcases List.mem_cons.mp hm with rfl | hm
  ·rw [List.countP_cons_of_neg (by rw [hp];exact Bool.false_ne_true),List.countP_cons_of_pos hq]
   have:=mono l;omega
  ·have ih:=jR hpq hm hq hp;by_cases h:p y = true
   ·rw [List.countP_cons_of_pos h,List.countP_cons_of_pos (hpq y h)];omega
   ·rw [List.countP_cons_of_neg h];by_cases h':q y = true
    ·rw [List.countP_cons_of_pos h'];omega
    ·rw [List.countP_cons_of_neg h'];exact ih
theorem om (m:Nat):∀ (l:List Nat),(∀ x ∈ l,x < m)->l ∈ gl m l.length
 | [],_=>by simp [gl]
 | x :: l,h=>by
  rw [length_cons,gl,List.mem_flatMap];exact ⟨x,List.mem_range.mpr (h x (.head _)),List.mem_map.mpr ⟨l,om m l fun y hy=>h y (.tail _ hy),rfl⟩⟩
theorem nX {α:Type} {n:Nat} {c c':Nat->Nat->Bool} (hc:∀ i j,i < n->j < n->c i j = c' i j):∀ t:KasT α,kin n c' t = true->kin n c t = true /\ kev c t = kev c' t
 | .ret _,_=>⟨rfl,rfl⟩
 | .ask i j k,h=>by
  simp only [kin,Bool.and_eq_true,decide_eq_true_eq] at h;have e:=hc i j h.1 h.2.1;obtain ⟨a,b⟩:=nX hc (k (c' i j)) h.2.2;refine ⟨?_,?_⟩
  ·simp only [kin,Bool.and_eq_true,decide_eq_true_eq];exact ⟨h.1,h.2.1,by rw [e];exact a⟩
  ·simp only [kev];rw [e];exact b
noncomputable def bB (c:Nat->Nat->Bool) (n i:Nat):Nat:=(List.range n).countP fun j=>c j i
structure Tot (c:Nat->Nat->Bool) (n:Nat):Prop where
 irr:∀ i,i < n->c i i = false
 tr:∀ i j k,c i j = true->c j k = true->c i k = true
 tot:∀ i j,i < n->j < n->i ≠ j->c i j = true \/ c j i = true
theorem Tot.lt {c:Nat->Nat->Bool} (t:Tot c n) (hi:i < n) (h:c i j = true):bB c n i < bB c n j:=
 jR (p:=fun k=>c k i) (q:=fun k=>c k j) (fun k hk=>t.tr _ _ _ hk h) (List.mem_range.mpr hi) h (t.irr i hi)
theorem Tot.eq {c:Nat->Nat->Bool} (t:Tot c n) (hi:i < n) (hj:j < n):c i j = decide (bB c n i < bB c n j):=by
 cases h:c i j with
 | true=>exact (decide_eq_true (t.lt hi h)).symm
 | false=>
  refine (decide_eq_false fun q=>?_).symm
  by_cases e:i = j
  ·subst e;exact Nat.lt_irrefl _ q
  ·rcases t.tot i j hi hj e with z | z
   ·rw [h] at z;cases z
   ·exact lt_asymm q (t.lt hj z)
theorem Tot.rank_lt {c:Nat->Nat->Bool} (t:Tot c n) (hi:i < n):bB c n i < n:=by
 have:=jR (p:=fun k=>c k i) (q:=fun _=>true) (fun _ _=>rfl) (List.mem_range.mpr hi) rfl (t.irr i hi)
 rw [List.countP_true,length_range] at this;exact this
theorem vU (n:Nat) (h2:2 <= n) (h5:n <= 5):(gl n n).all (fJ n) = true:=by
 have:n = 2 \/ n = 3 \/ n = 4 \/ n = 5:=by omega
 rcases this with rfl | rfl | rfl | rfl
 ·exact zC
 ·exact zd
 ·exact zt
 ·exact zc
theorem gy {c:Nat->Nat->Bool} (t:Tot c n) (h2:2 <= n) (h5:n <= 5) :
  kin n c (kas_sort n) = true /\ (kev c (kas_sort n)).toList.map (bB c n) = List.range n /\ ∀ i ∈ (kev c (kas_sort n)).toList,i < n:=by
 let l:=(List.range n).map (bB c n)
 have gd:∀ i,i < n->l.getD i 0 = bB c n i:=fun i hi=>by simp [l,List.getD,hi]
 have hm:l ∈ gl n n:=by
  have e:l.length = n:=by simp [l]
  have:=om n l fun x hx=>by
   obtain ⟨i,hi,rfl⟩:=List.mem_map.mp hx;exact t.rank_lt (List.mem_range.mp hi)
  rw [e] at this;exact this
 have nd:l.Nodup:=by
  refine List.pairwise_map.mpr (List.Pairwise.imp_of_mem (R:=(· < ·)) (fun {a b} ha hb hab q=>?_) List.pairwise_lt_range)
  rcases t.tot a b (List.mem_range.mp ha) (List.mem_range.mp hb) (ne_of_lt hab) with z | z
  ·exact Nat.lt_irrefl _ (q ▸ t.lt (List.mem_range.mp ha) z)
  ·exact Nat.lt_irrefl _ (q ▸ t.lt (List.mem_range.mp hb) z)
 have g:=List.all_eq_true.mp (vU n h2 h5) l hm;unfold fJ at g;rw [decide_eq_true nd] at g;simp only [Bool.not_true,Bool.false_or,Bool.and_eq_true,decide_eq_true_eq] at g;obtain ⟨⟨g1,g2⟩,g3⟩:=g;obtain ⟨k1,k2⟩:=nX (c:=c) (fun i j hi hj=>by rw [t.eq hi hj,gd i hi,gd j hj]) (kas_sort n) g1
 have g3':∀ i ∈ (kev c (kas_sort n)).toList,i < n:=fun i hi=>by
  rw [k2] at hi;have:=g3;simp only [List.all_eq_true,decide_eq_true_eq] at this;exact this i hi
 refine ⟨k1,?_,g3'⟩
 rw [k2] at g3' ⊢;rw [<- g2];exact map_congr_left fun i hi=>(gd i (g3' i hi)).symm
section
theorem qK {α:Type} {cmp:Nat->Nat->(Bool->Shared->Prop)->Shared->Prop} {c:Nat->Nat->Bool} {n:Nat} {s:Shared} {Q:α->Shared->Prop} (hc:∀ i j C,i < n->j < n->C (c i j) s->cmp i j C s):∀ t:KasT α,kin n c t = true->Q (kev c t) s->t.kasWp cmp Q s
 | .ret _,_,h=>h
 | .ask i j k,hk,h=>by
  simp only [kin,Bool.and_eq_true,decide_eq_true_eq] at hk;exact hc i j _ hk.1 hk.2.1 (qK hc (k (c i j)) hk.2.2 h)
section
variable {h0:Heap} {a kS:Addr}
structure vI (W:Wd) (T:Heap->Prop) (n:Nat) (h0:Heap) (f:Value) (t:List Nat) (ps:List (Int × Int)):Prop where
 of ::
 run:∀ (A:Around) (s:Shared) (O:List Addr) (M:Addr->Prop) (v:Value),aL n A->Ok W T M s->Kp W h0 s.heap->Den s.heap O M v (ag t)->
  ∀ (Q E:Value->Shared->Prop),(∀ u h' tk,s.toks <= tk->Stp W T s.heap h'->Den h' O M u (fN ps)->Q u { s with heap:=h',toks:=tk })->wpAny (model W.prog W.w) A (call f [v]) Q E s
structure vE (W:Wd) (h0:Heap) (a kS:Addr):Prop where
 na:h0.get? a = none
 nk:h0.get? kS = none
 ba:W.nb <= a
 bk:W.nb <= kS
 ta:a ≠ W.tab
 tk:kS ≠ W.tab
 ne:kS ≠ a
structure Sx (W:Wd) (T:Heap->Prop) (h0:Heap) (O:List Addr) (M:Addr->Prop) (a kS:Addr) (h:Heap) (kA:List Value) (ks:List (List (Int × Int))) (e e1:Nat):Prop where
 gd:Gd W T h
 kp:Kp W h0 h
 ea:h.get? a = some (seqObj "list" #[] e1)
 ek:h.get? kS = some (seqObj "list" kA.toArray e)
 dl:am h O M kA (ks.map fN)
theorem lY (hW:Wok W T) {h:Heap} {b:Addr} {xs:Array Value} {k:Nat} {f:Array Value->Array Value} (g:Gd W T h) (hb:W.nb <= b) (e:h.get? b = some (seqObj "list" xs k)):Gd W T (h.update b (Obj.mapSeq f)):=
 g.same hW hb (fun o e'=>by rw [e] at e';cases e';exact jZ rfl) (Heap.SameBut.update ..)
theorem mQ {h:Heap} {b:Addr} {g:Obj->Obj} (k:Kp W h0 h) (n0:h0.get? b = none):Kp W h0 (h.update b g):=fun x o ht e=>
 ((Heap.SameBut.update h b g).2 x (fun q=>by rw [q,n0] at e;cases e)).trans (k x o ht e)
theorem rD (hW:Wok W T) {A:Around} {E:Value->Shared->Prop} {s:Shared} {st:SortSt} {kA out:List Value} {ks:List (List (Int × Int))} {e e1:Nat} {P:PySem.Fin->Shared->Prop} (N:vE W h0 a kS) (X:Sx W T h0 O M a kS s.heap kA ks e e1)
  (hout:(arrOf st).map (·.2) = out.toArray) (hz:out.length < 64) (hk:kA.length < 64) (hf:failedOf st = none)
  (h:∀ h',Gd W T h'->Kp W h0 h'->h'.PlainList a out.toArray->P (.done (.ret .none)) { s with heap:=h' }):wpAny (model W.prog W.w) A (ksk_tail a false e1 (.ref kS) st) P E s:=by
 have s1:=Heap.SameBut.update s.heap kS (Obj.mapSeq fun _=>(#[]:Array Value))
 have na1:(s.heap.update kS (Obj.mapSeq fun _=>(#[]:Array Value))).get? a = some (seqObj "list" #[] e1):=(s1.2 a N.ne.symm).trans X.ea
 unfold ksk_tail;try dsimp only
 rw [hout];refine wpAny_bind (listUpdate_at X.ek rfl ?_ (by rw [List.size_toArray,sizeLine_eq];omega) (zero_le _))
 refine wpAny_bind (wpAny_letGo ?_)
 refine wpAny_bind (seqEpoch_at na1 rfl ?_)
 refine wpAny_bind (listUpdate_at na1 rfl ?_ (zero_le _) (by simp only [Bool.false_eq_true,if_false];rw [List.size_toArray,sizeLine_eq];omega))
 rw [hf];simp only [bne_self_eq_false,Bool.false_eq_true,if_false];refine wpAny_pure (h _ ?_ ?_ ?_)
 ·exact lY hW (lY hW X.gd N.bk X.ek) N.ba na1
 ·exact mQ (mQ X.kp N.nk) N.na
 ·exact ⟨_,get?_update_seq na1 fun _=>out.toArray⟩
theorem gp {h h':Heap} {O':List Addr} {M':Addr->Prop} {ws:List Value} {ds:List (List Nat)} (x:am h O M ws (ds.map ag)):am h' O' M' ws (ds.map ag):=by
 induction ds generalizing ws with
 | nil=>induction x using qE;exact .nil
 | cons d ds ih=>induction x using kE with
  | cons x y=>exact .cons (x.atom rfl) (ih y)
theorem rY {vs:List Value} {ds:List D} {h:Heap} (dl:am h O M vs ds) {i:Nat} {d:D} (e:ds[i]? = some d):Den h O M (vs.getD i .none) d:=by
 obtain ⟨v,q,x⟩:=dl.get i _ e;have:vs.getD i .none = v:=congrArg (fun o:Option Value=>o.getD .none) q
 exact this ▸ x
theorem uI {α β:Type} (f:α->β) {l:List α} (d:α) {i:Nat} (hi:i < l.length):(l.map f)[i]? = some (f (l.getD i d)):=by rw [getElem?_map,bc l d hi];rfl
theorem th {vs:List Value} {ts:List (List Nat)} {h:Heap} (dl:am h O M vs (ts.map ag)) (is:List Nat) (hi:∀ i ∈ is,i < ts.length):am h O M (is.map fun i=>vs.getD i .none) ((is.map fun i=>ts.getD i []).map ag):=by
 induction is with
 | nil=>exact .nil
 | cons i is ih=>exact .cons (rY dl (uI ag [] (hi i (.head _)))) (ih fun j hj=>hi j (.tail _ hj))
noncomputable def cj (key:List Nat->List (Int × Int)) (ts:List (List Nat)):List (List Nat):=
 if ts.length < 2 then ts else (kev (fun i j=>ltP (key (ts.getD i [])) (key (ts.getD j []))) (kas_sort ts.length)).toList.map fun i=>ts.getD i []
theorem km {key:List Nat->List (Int × Int)} {ts:List (List Nat)} (nd:ts.Nodup) (inj:∀ x ∈ ts,∀ y ∈ ts,key x = key y->x = y):Tot (fun i j=>ltP (key (ts.getD i [])) (key (ts.getD j []))) ts.length where
 irr:=fun i _=>i3 _
 tr:=fun i j k=>oE
 tot:=fun i j hi hj hne=>n7 fun z=>by
  have h1:ts.getD i [] = ts[i]:=by simp [List.getD,hi]
  have h2:ts.getD j [] = ts[j]:=by simp [List.getD,hj]
  rw [h1,h2] at z;exact hne ((List.getElem_inj nd).mp (inj _ (getElem_mem hi) _ (getElem_mem hj) z))
theorem am.ty {h:Heap} {vs:List Value} {ks:List (List (Int × Int))} (dl:am h O M vs (ks.map fN)):∀ v ∈ vs,∀ M':Model,Looks M' h (typeOf v) (.type "list"):=fun v hv M'=>by
 obtain ⟨i,hi,rfl⟩:=getElem_of_mem hv;have hl:=dl.length;rw [length_map] at hl;have g:(ks.map fN)[i]? = some (fN (ks.getD i [])):=by simp [List.getD,hl ▸ hi]
 obtain ⟨u,e,d⟩:=dl.get i _ g;have:vs[i] = u:=by simpa [hi] using e
 rw [this];unfold fN at d
 induction d using lE with
 | list pl nm dl=>
 obtain ⟨j,e⟩:=pl;exact (Looks.ld e).andThen .now
theorem yO (hW:Wok W T) {A:Around} {E:Value->Shared->Prop} {s:Shared} {kA vs:List Value} {ts:List (List Nat)} {key:List Nat->List (Int × Int)} {e e1:Nat} {P:PySem.Fin->Shared->Prop} (N:vE W h0 a kS) (X:Sx W T h0 O M a kS s.heap kA (ts.map key) e e1)
  (dv:am s.heap O M vs (ts.map ag)) (nd:ts.Nodup) (inj:∀ x ∈ ts,∀ y ∈ ts,key x = key y->x = y) (h5:ts.length <= 5) (hu:A.units + 30 < cLine)
  (h:∀ h' out,Gd W T h'->Kp W h0 h'->h'.PlainList a out.toArray->am h' O M out ((cj key ts).map ag)->P (.done (.ret .none)) { s with heap:=h' }):wpAny (model W.prog W.w) A (ksk_end a false vs.toArray e1 (.ref kS) kA.toArray) P E s:=by
 have lv:=dv.length;have lk:=X.dl.length;rw [length_map] at lv;rw [length_map,length_map] at lk;unfold ksk_end;try dsimp only
 simp only [Bool.false_eq_true,if_false];by_cases h2:vs.toArray.size < 2
 ·rw [if_pos h2,if_pos h2];rw [List.size_toArray] at h2;refine wpAny_bind (wpAny_pure ?_)
  rw [StateT.run_pure];refine wpAny_bind (wpAny_pure ?_)
  try dsimp only
  refine rD hW (st:=SortSt.mk' general' (kA.toArray.zip vs.toArray) #[] 7 none) (out:=vs) N X ?_ (by omega) (by omega) rfl fun h' g k pl=>h h' vs g k pl ?_
  ·apply Array.toList_inj.mp
   show ((kA.toArray.zip vs.toArray).map (·.2)).toList = vs;rw [Array.toList_map,ksk_zip];show (kA.zip vs).map (·.2) = vs;rw [List.map_snd_zip (by omega)]
  ·unfold cj;rw [if_pos (by omega)]
   exact gp dv
 ·rw [if_neg h2,if_neg h2];rw [List.size_toArray] at h2;obtain ⟨t1,t2,t3⟩:=gy (km nd inj) (by omega) h5
  refine wpAny_bind (kas_kind (T:=.type "list") (by omega) (fun v hv=>X.dl.ty v hv _) (by decide) (by decide) ?_)
  generalize hlt:(fun i j=>ltP (key (ts.getD i [])) (key (ts.getD j []))) = lt at t1 t2 t3
  refine wpAny_bind (wpAny_mono (kat_run (Q:=fun st' s'=>∃ p:Array Nat,p.size = vs.length /\ arrOf st' = p.map (kas_item (kA.toArray.zip vs.toArray)) /\ failedOf st' = none /\ s' = s /\ p = kev lt (kas_sort ts.length))
   (G:=fun p s'=>s' = s /\ p = kev lt (kas_sort ts.length)) (by omega) (by omega) (by omega) (fun p' st' s' a1 a2 a3 a4=>⟨p',a1,a2,a3,a4.1,a4.2⟩) ?_) ?_ fun _ _ e=>e)
  ·rw [lv];refine qK (c:=lt) (n:=ts.length) (fun i j C hi hj hC=>?_) _ t1 ⟨rfl,rfl⟩
   subst hlt;have den:∀ i,i < ts.length->Den s.heap O M (kA.getD i .none) (fN (key (ts.getD i []))):=fun i hi=>rY X.dl (by rw [map_map];exact uI _ [] hi)
   exact ut hu (den i hi) (den j hj) hC
  ·rintro ⟨⟨⟩,st'⟩ s' ⟨p,hp,har,hf,rfl,rfl⟩
   try dsimp only
   refine rD hW (out:=(kev lt (kas_sort ts.length)).toList.map fun i=>vs.getD i .none) N X (kat_snds (by omega) har) (by rw [length_map,Array.length_toList];omega) (by omega) hf fun h' g k pl=>h h' _ g k pl ?_
   unfold cj;rw [if_neg (by omega),hlt]
   exact gp (th dv _ t3)
end
end
section
section
variable {h0:Heap} {a kS:Addr}
theorem x9 (hW:Wok W T) {A:Around} {E:Value->Shared->Prop} {s:Shared} {vs:List Value} {ts:List (List Nat)} {key:List Nat->List (Int × Int)} {f:Value} {e1:Nat} {P:PySem.Fin->Shared->Prop} (N:vE W h0 a kS) (r:aL n A) (tk0:0 <= s.toks)
  (live:∀ b,M b->(b ≠ W.tab /\ (h0.get? b).isSome) \/ b = a \/ b = kS) (hM:M kS) (X:Sx W T h0 O M a kS s.heap [] [] 0 e1)
  (dv:am s.heap O M vs (ts.map ag)) (nd:ts.Nodup) (inj:∀ x ∈ ts,∀ y ∈ ts,key x = key y->x = y) (h5:ts.length <= 5) (hkey:∀ t ∈ ts,vI W T n h0 f t (key t))
  (h:∀ h' tk out,s.toks <= tk->Gd W T h'->Kp W h0 h'->h'.PlainList a out.toArray->am h' O M out ((cj key ts).map ag)->P (.done (.ret .none)) { s with heap:=h',toks:=tk }) :
  wpAny (model W.prog W.w) A (ksk_rest a f false vs.toArray e1 (.ref kS)) P E s:=by
 have lv:=dv.length;rw [length_map] at lv;unfold ksk_rest;refine wpAny_bind (wpAny_rule ?_)
 first
  | rw [List.forIn_toArray]
  | (rw [<- Array.forIn_toList];simp only [List.toList_toArray])
  | rw [<- Array.forIn_toList]
 refine wpAny_bind (ksk_fold (fun i s'=>∃ h' tk kA e,s' = { s with heap:=h',toks:=tk } /\ s.toks <= tk /\ Sx W T h0 O M a kS h' kA ((ts.take i).map key) e e1) vs 0 s
  ⟨s.heap,s.toks,[],0,rfl,Nat.le_refl _,by simpa using X⟩ ?step ?done)
 case step=>
  intro j x s' hx hI;refine z3 fun c' Q' E' hc hQ hE=>?_
  obtain ⟨h',tk,kA,e,rfl,le,X'⟩:=hI;rw [Nat.zero_add] at X';have hj:j < vs.length:=(List.getElem?_eq_some_iff.mp hx).1;have hjt:j < ts.length:=by omega
  have lk:=X'.dl.length;rw [length_map,length_map,length_take] at lk;have gx:(ts.map ag)[j]? = some (ag (ts[j])):=by simp [hjt]
  obtain ⟨x',ex,dx⟩:=dv.get j _ gx;rw [hx] at ex;cases ex;have ok:Ok W T M { s with heap:=h',toks:=tk }:=⟨X'.gd,fun b m=>by
   rcases live b m with ⟨ht,m⟩ | rfl | rfl
   ·obtain ⟨ob,eo⟩:=Option.isSome_iff_exists.mp m;exact ⟨ht,Option.isSome_iff_exists.mpr ⟨ob,X'.kp b ob ht eo⟩⟩
   ·exact ⟨N.ta,by show (h'.get? b).isSome;rw [X'.ea];rfl⟩
   ·exact ⟨N.tk,by show (h'.get? b).isSome;rw [X'.ek];rfl⟩,Nat.le_trans tk0 le⟩
  subst hc hQ hE;refine wpAny_bind (wpAny_attempt ((hkey _ (getElem_mem hjt)).run A { s with heap:=h',toks:=tk } O _ x r ok X'.kp (dx.atom rfl) _ _ fun u h'' tk' le' st du=>?_))
  have ek2:h''.get? kS = some (seqObj "list" kA.toArray e):=st.kp _ _ N.tk X'.ek;have ea2:h''.get? a = some (seqObj "list" #[] e1):=st.kp _ _ N.ta X'.ea;have s1:=Heap.SameBut.update h'' kS (Obj.mapSeq (·.push u));have le':tk <= tk':=le';have ks:aN M h'' (h''.update kS (Obj.mapSeq (·.push u))):=fun b ob xs k nb eb _=>(s1.2 b fun z=>nb (z ▸ hM)).trans eb
  have dl':=(X'.dl.st X'.gd st.kp).kq ks;have et:(ts.take (j + 1)).map key = (ts.take j).map key ++ [key ts[j]]:=by rw [List.take_add_one,List.getElem?_eq_getElem hjt,map_append];rfl
  obtain ⟨c2,hc2⟩:∃ c2,(h''.update kS (Obj.mapSeq (·.push u))).get? kS = some (seqObj "list" (kA ++ [u]).toArray c2):=⟨_,by have:=get?_update_seq ek2 (·.push u);simpa using this⟩
  refine wpAny_bind (listUpdate_at ek2 rfl ?_ (by rw [List.size_toArray,sizeLine_eq];omega) (by rw [Array.size_push,List.size_toArray,sizeLine_eq];omega))
  refine wpAny_pure ⟨rfl,_,tk',kA ++ [u],c2,rfl,Nat.le_trans le le',⟨lY hW st.gd N.bk ek2,mQ (X'.kp.trans st.kp) N.nk,(s1.2 a N.ne.symm).trans ea2,hc2,?_⟩⟩
  rw [Nat.zero_add,et,map_append];exact dl'.append (.cons (du.kq ks) .nil)
 case done=>
  rintro s' ⟨h',tk,kA,e,rfl,le,X'⟩
  have X':Sx W T h0 O M a kS h' kA (ts.map key) e e1:=by
   have e3:ts.take (0 + vs.length) = ts:=List.take_of_length_le (by omega)
   rw [e3] at X';exact X'
  try dsimp only
  refine wpAny_bind (listItems_at X'.ek rfl ?_)
  exact yO hW (s:={ s with heap:=h',toks:=tk }) N X' (gp dv) nd inj h5 (by have:=r.units;omega) fun h'' out g k pl dl=>h h'' tk out le g k pl dl
theorem aL.in1 {A:Around} (r:aL (n + 1) A):aL n A.in1.in1:=⟨r.handled,by have:=r.depth;show A.depth + n + 1 < _;omega,by have:=r.units;show A.units + 1 + 1 + _ < _;omega⟩
theorem tI (hW:Wok W T) {A:Around} {E:Value->Shared->Prop} {s:Shared} {vs:List Value} {ts:List (List Nat)} {key:List Nat->List (Int × Int)} {l q:Addr} {Q:Value->Shared->Prop} (r:aL (n + 1) A) (k:Ok W T M s)
  (pl:s.heap.PlainList l vs.toArray) (dv:am s.heap O M vs (ts.map ag)) (nd:ts.Nodup) (inj:∀ x ∈ ts,∀ y ∈ ts,key x = key y->x = y) (h5:ts.length <= 5) (hkey:∀ t ∈ ts,vI W T n s.heap (.ref q) t (key t))
  (h:∀ D out h' tk,s.toks <= tk->Stp W T s.heap h'->s.heap.get? D = none->W.nb <= D->h'.PlainList D out.toArray->am h' O (fun b=>M b \/ b = D) out ((cj key ts).map ag)->Q (.ref D) { s with heap:=h',toks:=tk }) :
  wpAny (model W.prog W.w) A (call (.builtin "sorted") [.ref l] [(Str.ofString "key",.ref q)]) Q E s:=by
 have lv:=dv.length;rw [length_map] at lv;refine call_function_entry_kw kind_sorted plain_sorted entry_sorted (ksk_s1 _ _) ?_
 unfold Builtin.«sorted»;refine wpAny_bind (m:=checkCount "sorted" 1 1 _) (wpAny_pure ?_)
 refine wpAny_bind (collect_list pl.isList ?_ (by rw [sizeLine_eq];omega))
 refine wpAny_bind (wpAny_newList ?_ (by rw [sizeLine_eq];omega))
 have hsz:((s.heap.push (seqObj "list" #[] 0)).update s.heap.objs.size (Obj.mapSeq (· ++ vs.toArray))).objs.size = s.heap.objs.size + 1:=by
  rw [Heap.size_update,size_push']
 have hoL:(((s.heap.push (seqObj "list" #[] 0)).update s.heap.objs.size (Obj.mapSeq (· ++ vs.toArray))).push (seqObj "list" vs.toArray 0)).get? (s.heap.objs.size + 1) = some (seqObj "list" vs.toArray 0):=by
  rw [<- hsz];exact Heap.get?_push_size _ rfl
 have keep:∀ b o,s.heap.get? b = some o->(((s.heap.push (seqObj "list" #[] 0)).update s.heap.objs.size (Obj.mapSeq (· ++ vs.toArray))).push (seqObj "list" vs.toArray 0)).get? b = some o:=fun b o q=>by
  have hlt:b < s.heap.objs.size:=Heap.lt_size q;rw [Heap.get?_push_ne _ _ _ (by rw [hsz];exact ne_of_lt (Nat.lt_succ_of_lt hlt)),Heap.get?_update_ne _ _ _ _ (ne_of_lt hlt),Heap.get?_push_ne _ _ _ (ne_of_lt hlt)]
  exact q
 show wpAny _ _ _ _ _ { s with heap:=((s.heap.push (seqObj "list" #[] 0)).update s.heap.objs.size (Obj.mapSeq (· ++ vs.toArray))).push (seqObj "list" vs.toArray 0) }
 rw [hsz];have fresh:∀ i,s.heap.get? (s.heap.objs.size + i) = none:=fun i=>Heap.get?_none_of_le (le_add_right _ _)
 have notab:∀ i,s.heap.objs.size + i ≠ W.tab:=fun i z=>by obtain ⟨ps,e⟩:=k.gd.tab;rw [<- z,fresh] at e;cases e
 refine wpAny_bind (wpAny_holding (wpAny_call_entry_kw slot_list_sort ⟨_,hoL,rfl⟩ entry_list_sort ?body (ksk_l1 _ _)))
 case body=>
  show wpAny (model W.prog W.w) A.in1.in1 (Builtin.«list.sort» ⟨[.ref (s.heap.objs.size + 1)],[(Str.ofString "key",.ref q)]⟩) _ _ _;rw [ksk_t1];generalize hg1:(((s.heap.push (seqObj "list" #[] 0)).update s.heap.objs.size (Obj.mapSeq (· ++ vs.toArray))).push (seqObj "list" vs.toArray 0)) = h1 at hoL keep ⊢;have sz1:h1.objs.size = s.heap.objs.size + 2:=by rw [<- hg1,size_push',hsz]
  have st1:Stp W T s.heap h1:=.of hW k.gd keep;have s1:=Heap.SameBut.update h1 (s.heap.objs.size + 1) (Obj.mapSeq fun _=>(#[]:Array Value))
  obtain ⟨e1,ho1⟩:∃ e1,(h1.update (s.heap.objs.size + 1) (Obj.mapSeq fun _=>(#[]:Array Value))).get? (s.heap.objs.size + 1) = some (seqObj "list" #[] e1):=⟨_,get?_update_seq hoL fun _=>#[]⟩
  have hb1:W.nb <= s.heap.objs.size + 1:=Nat.le_trans k.gd.size (le_succ _);have g2:Gd W T (h1.update (s.heap.objs.size + 1) (Obj.mapSeq fun _=>(#[]:Array Value))):=lY hW st1.gd hb1 hoL
  have k2:Kp W s.heap (h1.update (s.heap.objs.size + 1) (Obj.mapSeq fun _=>(#[]:Array Value))):=mQ st1.kp (fresh 1)
  have kS:((h1.update (s.heap.objs.size + 1) (Obj.mapSeq fun _=>(#[]:Array Value))).push (seqObj "tuple" vs.toArray 0)).objs.size = s.heap.objs.size + 3:=by rw [size_push',Heap.size_update,sz1]
  have pk:∀ b o,(h1.update (s.heap.objs.size + 1) (Obj.mapSeq fun _=>(#[]:Array Value))).get? b = some o->(((h1.update (s.heap.objs.size + 1) (Obj.mapSeq fun _=>(#[]:Array Value))).push (seqObj "tuple" vs.toArray 0)).push (seqObj "list" #[] 0)).get? b = some o:=fun b o e=>Heap.get?_push_of_some _ (Heap.get?_push_of_some _ e)
  unfold ksk_tree;refine wpAny_bind (listItems_at hoL rfl ?_)
  refine wpAny_bind (listUpdate_at hoL rfl ?_ (by rw [List.size_toArray,sizeLine_eq];omega) (zero_le _))
  refine wpAny_bind (seqEpoch_at ho1 rfl ?_)
  refine wpAny_bind (wpAny_newTuple ?_ (by show vs.length <= _;rw [sizeLine_eq];omega))
  refine wpAny_bind (wpAny_newList ?_ (zero_le _))
  refine wpAny_holding ?_
  show wpAny (model W.prog W.w) A.in1.in1 (ksk_rest (s.heap.objs.size + 1) (.ref q) false vs.toArray e1 (.ref ((h1.update (s.heap.objs.size + 1) (Obj.mapSeq fun _=>(#[]:Array Value))).push (seqObj "tuple" vs.toArray 0)).objs.size)) _ _ { s with heap:=((h1.update (s.heap.objs.size + 1) (Obj.mapSeq fun _=>(#[]:Array Value))).push (seqObj "tuple" vs.toArray 0)).push (seqObj "list" #[] 0) }
  have hkS:=Heap.get?_push_size ((h1.update (s.heap.objs.size + 1) (Obj.mapSeq fun _=>(#[]:Array Value))).push (seqObj "tuple" vs.toArray 0)) (o:=seqObj "list" #[] 0) rfl
  rw [kS] at hkS ⊢;refine x9 (s:={ s with heap:=((h1.update (s.heap.objs.size + 1) (Obj.mapSeq fun _=>(#[]:Array Value))).push (seqObj "tuple" vs.toArray 0)).push (seqObj "list" #[] 0) }) (h0:=s.heap) (O:=O) (M:=fun b=>M b \/ b = s.heap.objs.size + 1 \/ b = s.heap.objs.size + 3) (ts:=ts) (key:=key) hW
   ⟨fresh 1,fresh 3,hb1,Nat.le_trans k.gd.size (le_add_right _ _),notab 1,notab 3,ne_of_gt (Nat.add_lt_add_left (by decide) _)⟩ r.in1 k.tk (fun b m=>m.imp (k.live b) id) (.inr (.inr rfl))
   ⟨g2.keeps hW pk,fun b o ht e=>pk b o (k2 b o ht e),pk _ _ ho1,hkS,.nil⟩ (gp dv) nd inj h5 hkey fun h' tk out le g kp pl' dl=>⟨_,rfl,wpAny_pure ⟨_,rfl,?_⟩⟩
  exact h _ out h' tk le ⟨kp,g⟩ (fresh 1) hb1 pl' (gp dl)
end
end
structure po (W:Wd) (T:Heap->Prop) (c:Addr):Prop where
 hd:∀ h,T h->CodeHd h c W.tab
 bt:∀ h,T h->h.BuiltinsAt W.mg W.tab
noncomputable abbrev qM (W:Wd) (params:Arguments) (body:Expr) (scope:Scope) (cl:List (Str × Addr)) (pm cv ctv:Value):Obj:={ cls:=.type "function",data:=.func (kla_fn "<lambda>" W.lq params body scope cl pm cv ctv) }
variable {params:Arguments}
theorem tZ (hW:Wok W T) {c:Addr} {body:Expr} {lp:Pos} (lw:po W T c) (g:Gd W T s.heap) (F:Fm W s.heap env vm) (hcode:env.code = .ref c)
  (hfree:∀ p ∈ scope.names,p.2 = .free->(env.cells.lookup p.1).isSome = true) (hlp:lp = W.lpos) (hq:env.qual ++ "<lambda>" = W.lq) (hdef:defaultsOf params env = ([],[]))
  (q:∀ f h' tk pm cv ctv,s.toks <= tk->Stp W T s.heap h'->s.heap.get? f = none->h'.get? f = some (qM W params body scope (bL scope env) pm cv ctv)->h'.CodeRec cv W.lq->Q (.ref f) { s with heap:=h',toks:=tk }) :
  wpAny (model W.prog W.w) A (eval (.Lambda params body scope lp) env) Q E s:=by
 subst hlp;refine kla_eval hdef ?_
 rw [hq];obtain ⟨ps,hP⟩:=g.tab;obtain ⟨tr,hto⟩:=g.tabok ps hP;have C:=lw.hd _ g.more;have B:=lw.bt _ g.more;have nP:mainGlobals ≠ W.tab:=fun z=>by obtain ⟨o,es,ep,e,r⟩:=g.g;rw [z,hP] at e;cases e;cases r.1
 rcases hto with hn | ⟨c',hs,hrec⟩
 ·refine wpAny_with_toks (Nat.le_refl s.toks) (kla_makeFunction (gz hfree) F.glob g.g hcode C hP tr hn nP B fun c' ctv h' tk hx hge hlt hrec htb le=>?_)
  have k1:∀ a o,a ≠ W.tab->s.heap.get? a = some o->h'.get? a = some o:=fun a o ne e=>hx a o ne e
  have g1:Gd W T h':=g.grown hW k1 htb ⟨?_,.inr ⟨c',?_,hrec⟩⟩
  ·have k2:∀ a o,h'.get? a = some o->(h'.push (kla_obj "<lambda>" W.lq params body scope (bL scope env) ((W.mg "__name__").getD .none) c' ctv)).get? a = some o:=fun a o e=>Heap.get?_push_of_some _ e
   refine q _ _ tk _ (.ref c') ctv le ⟨fun a o ne e=>k2 a o (k1 a o ne e),g1.keeps hW k2⟩ ?_ (Heap.get?_push_size _ rfl) (hrec.keeps k2)
   cases e:s.heap.get? h'.objs.size with
   | none=>rfl
   | some o=>
    by_cases z:h'.objs.size = W.tab
    ·rw [<- z,az] at htb;cases htb
    ·have:=k1 _ o z e;rw [az] at this;cases this
  ·have:(ps ++ #[rawInt W.lpos.line,rawInt W.lpos.col,.ref c']).toList = ps.toList ++ [rawInt W.lpos.line,rawInt W.lpos.col,.ref c']:=by simp
   rw [this];exact TriplesOk_snoc _ _ _ _ tr
  ·have:(ps ++ #[rawInt W.lpos.line,rawInt W.lpos.col,.ref c']).toList = ps.toList ++ [rawInt W.lpos.line,rawInt W.lpos.col,.ref c']:=by simp
   rw [this];exact codeAmong_snoc _ tr hn
 ·refine wpAny_with_toks (Nat.le_refl s.toks) (kla_makeFunctionHit (gz hfree) F.glob g.g hcode C hP tr hs B fun ctv h' tk hk hsz le=>?_)
  have k2:∀ a o,s.heap.get? a = some o->(h'.push (qM W params body scope (bL scope env) ((W.mg "__name__").getD .none) (.ref c') ctv)).get? a = some o:=fun a o e=>Heap.get?_push_of_some _ (hk a o e)
  refine q _ _ tk _ (.ref c') ctv le (.of hW g k2) ?_ (Heap.get?_push_size _ rfl) (hrec.keeps k2)
  cases e:s.heap.get? h'.objs.size with
  | none=>rfl
  | some o=>have:=hk _ o e;rw [az] at this;cases this
theorem Gd.code_ne (g:Gd W T h) {a:Addr} {o:Obj} (e:h.get? a = some o) (c:bH o):a ≠ W.tab:=fun z=>by
 subst z;obtain ⟨ps,hP⟩:=g.tab;rw [e] at hP;cases hP;obtain ⟨tr,_⟩:=g.tabok ps e;obtain ⟨vs,q,t,e1,e2⟩:=c;cases e1;have e2':ps.toList[1]? = some (.str q t):=by simpa using e2
 generalize ps.toList = l at tr e2';rcases l with _ | ⟨x,_ | ⟨y,l⟩⟩
 ·cases e2'
 ·cases e2'
 ·cases e2';cases x <;> exact tr
variable {h0:Heap}
theorem qW (hW:Wok W T) {f:Addr} {body:Expr} {pm cv ctv:Value} {x:Str} {vm0:Str->Option Value} {t:List Nat} {ps:List (Int × Int)} (g0:Gd W T h0)
  (ho:h0.get? f = some (qM W params body scope (bL scope env) pm cv ctv)) (hrec:h0.CodeRec cv W.lq) (F0:Fm W h0 env vm0) (V0:bz h0 O0 M0 vm0 μ) (hfree:∀ p ∈ scope.names,p.2 = .free->(env.cells.lookup p.1).isSome = true)
  (hsc:br scope = true) (hk:scope.kind = .function) (hco:scope.isCoroutine = false) (hgen:scope.isGenerator = false) (hcell:∀ p ∈ scope.names,p.2 ≠ .cell) (hx:scope.names.lookup x = some .local)
  (hbind:∀ v,bindArgs (kla_fn "<lambda>" W.lq params body scope (bL scope env) pm cv ctv) ⟨[v],[]⟩ = pure [(x,v)]) (hat:∀ y d,seen scope μ y = some d->d.atom = true)
  (hb:∀ L,EVP W T n (envX W.lq scope L f cv (bL scope env)) (upd (seen scope μ) x (ag t)) body (fN ps)):vI W T (n + 1) h0 (.ref f) t ps:=by
 refine .of ?_;intro A s O M v r ok kp dv Q E q;have ho':=kp _ _ (g0.ne_tab ho (fun _ z=>by cases z)) ho
 have hrec':s.heap.CodeRec cv W.lq:=by
  obtain ⟨c,o,vs,u,e1,e2,e3,e4⟩:=hrec;exact ⟨c,o,vs,u,e1,kp _ _ (g0.code_ne e2 ⟨vs,_,u,e3,e4⟩) e2,e3,e4⟩
 have uniq:∀ y k k',(y,k) ∈ scope.names->(y,k') ∈ scope.names->k = k':=fun y k k' h1 h2=>by
  have e1:=of_decide_eq_true (List.all_eq_true.mp hsc _ h1);have e2:=of_decide_eq_true (List.all_eq_true.mp hsc _ h2);exact Option.some.inj (e1.symm.trans e2)
 refine wpAny_call (kla_callFunE r.lim ho' rfl hco hgen rfl hrec' ?_)
 rw [hbind];refine wpAny_pure (wpAny_newFunctionEnv hcell (fun y hy=>by rw [List.mem_singleton.mp hy];exact hx) (fun h1a hns hsb=>?_) hk)
 have keep:∀ b o,s.heap.get? b = some o->h1a.get? b = some o:=fun b o e=>hsb.extBut b o (ne_of_lt (Heap.lt_size e)) (Heap.get?_push_of_some _ e)
 have st:Stp W T s.heap h1a:=.of hW ok.gd keep;refine ⟨st.gd.lim,?_⟩
 show codeAny _ _ (.expr body (envX W.lq scope s.heap.objs.size f cv (bL scope env))) _ _;have cl:∀ y c,(bL scope env).lookup y = some c->(y,NameKind.free) ∈ scope.names /\ env.cells.lookup y = some c:=fun y c e=>by
  rcases eP _ _ hfree e with z | z
  ·exact z
  ·cases z
 have loc:∀ y,(envX W.lq scope s.heap.objs.size f cv (bL scope env)).kindOf y = some .local->(y,NameKind.local) ∈ scope.names:=fun y hy=>mem_of_lookup hy
 have F1:Fm W h1a (envX W.lq scope s.heap.objs.size f cv (bL scope env)) (fun y=>if y = x then some v else seen scope vm0 y):={
  kind:=hk
  glob:=rfl
  blt:=rfl
  loc:=⟨_,hns,fun y hy=>by
   by_cases hyx:y = x
   ·subst hyx;simp [List.lookup]
   ·have:(y == x) = false:=by simp [hyx]
    rw [if_neg hyx];unfold seen;rw [if_neg fun z=>by cases uniq y _ _ (loc y hy) z]
    simp [List.lookup,this]⟩
  cell:=fun y c e=>by
   obtain ⟨h1,h2⟩:=cl y c e;have hyx:y ≠ x:=fun z=>by subst z;cases uniq y _ _ (mem_of_lookup hx) h1
   obtain ⟨o,e1,e2⟩:=F0.cell y c h2;rw [if_neg hyx];unfold seen;rw [if_pos h1];exact ⟨o,keep _ _ (kp _ _ (g0.ne_tab e1 (by rw [e2];intro _ z;cases z)) e1),e2⟩
  apart:=fun y z c e1 e2=>F0.apart y z c (cl y c e1).2 (cl z c e2).2
  above:=fun a fa=>by
   rcases fa with rfl | ⟨y,e⟩
   ·exact ok.gd.size
   ·exact F0.above a (.inr ⟨y,(cl y a e).2⟩)
  nocell:=fun y c hy e=>by cases uniq y _ _ (loc y hy) (cl y c e).1 }
 have VA:bz h1a O M (fun y=>if y = x then some v else seen scope vm0 y) (upd (seen scope μ) x (ag t)):=fun y d e=>by
  unfold upd at e;split at e
  ·rename_i z;cases e;exact ⟨v,if_pos z,dv.atom rfl⟩
  ·rename_i z;have ha:=hat y d e;unfold seen at e;split at e
   ·rename_i hm;obtain ⟨u,e1,e2⟩:=V0 y d e;refine ⟨u,?_,e2.atom ha⟩
    show (if y = x then some v else seen scope vm0 y) = some u
    rw [if_neg z];unfold seen;rw [if_pos hm];exact e1
   ·cases e
 have ok1:Ok W T M { s with heap:=h1a,toks:=s.toks + 1 }:=ok.step (le_succ _) st
 refine kla_codeExpr ((hb s.heap.objs.size).run _ { s with heap:=h1a,toks:=s.toks + 1 } _ O M (r.deeper _) ok1 F1 VA _ _ fun u h' tk le st' du=>?_)
 exact q u h' tk (Nat.le_trans (le_succ _) le) (st.trans st') du
variable {key:List Nat->List (Int × Int)}
theorem ui (hW:Wok W T) {lp kp:Pos} {body:Expr} {c:Addr} {x:Str} (lw:po W T c) (hs:Glb W env "sorted" (.builtin "sorted")) (he:EVP W T (n + 2) env μ e (.list (ts.map ag)))
  (hcode:env.code = .ref c) (hfree:(scope.names.all fun q=>(q.2 != .free) || (env.cells.lookup q.1).isSome) = true) (hlp:lp = W.lpos) (hq:env.qual ++ "<lambda>" = W.lq) (hdef:defaultsOf params env = ([],[]))
  (hsc:br scope = true) (hk:scope.kind = .function) (hco:scope.isCoroutine = false) (hgen:scope.isGenerator = false) (hcell:(scope.names.all fun p=>p.2 != .cell) = true) (hx:scope.names.lookup x = some .local)
  (hbind:∀ cl pm cv ctv v,bindArgs (kla_fn "<lambda>" W.lq params body scope cl pm cv ctv) ⟨[v],[]⟩ = pure [(x,v)]) (hat:∀ y d,seen scope μ y = some d->d.atom = true)
  (nd:ts.Nodup) (inj:∀ x ∈ ts,∀ y ∈ ts,key x = key y->x = y) (h5:ts.length <= 5)
  (hb:∀ t ∈ ts,∀ L f cv,EVP W T n (envX W.lq scope L f cv (bL scope env)) (upd (seen scope μ) x (ag t)) body (fN (key t)))
  (hst:autoParam (starEach [e] env = [(false,eval e env)]) rfT) :
  EVF W T (n + 2) env μ (.Call (.Name "sorted" np) [e] [⟨some "key",.Lambda params body scope lp,kp⟩] pos) ((cj key ts).map ag):=by
 have hfree':∀ p ∈ scope.names,p.2 = .free->(env.cells.lookup p.1).isSome = true:=fun p hp z=>by
  have:=List.all_eq_true.mp hfree p hp;rw [z] at this;simpa using this
 have hcell':∀ p ∈ scope.names,p.2 ≠ .cell:=fun p hp z=>by
  have:=List.all_eq_true.mp hcell p hp;rw [z] at this;cases this
 refine .of ?_;intro A s vm O M r k F V Q E q;refine wpAny_bind (bT hW k.gd F hs ?_)
 refine callWith_kw ?_ (by rw [hst];rfl) (by rw [hst];rfl)
 rw [hst];refine Calls.spliced_cons (he.run A s vm O M r k F V _ _ fun v h1a tA lA sI dA=>Calls.spliced_nil ?_)
 have kI:=k.step lA sI;have F1:=F.step k.gd sI.kp;have VA:=V.st k.gd sI.kp;refine kws_cons (tZ hW (s:={ s with heap:=h1a,toks:=tA }) lw sI.gd F1 hcode hfree' hlp hq hdef fun f hJ tJ pm cv ctv lB sB nf ho hrec=>kws_nil ?_)
 have kJ:=kI.step lB sB;have dB:=dA.st sI.gd sB.kp
 induction dB using lE with
 | list pl nm dl=>
 refine tI hW (s:={ s with heap:=hJ,toks:=tJ }) (n:=n + 1) (ts:=ts) (key:=key) r kJ pl dl nd inj h5 (fun t ht=>qW hW sB.gd ho hrec (F1.step sI.gd sB.kp) (VA.st sI.gd sB.kp) hfree' hsc hk hco hgen hcell' hx (hbind _ _ _ _) hat (fun L=>hb t ht L f cv)) fun D out h' tk le st dn hnb pl' dl'=>?_
 refine q D out h' tk (Nat.le_trans lA (Nat.le_trans lB le)) (sI.trans (sB.trans st)) ?_ hnb pl' dl'
 cases z:s.heap.get? D with
 | none=>rfl
 | some o=>
  have:=cZ (sI.trans sB) (a:=D) (by rw [z];rfl)
  have dn:hJ.get? D = none:=dn;rw [dn] at this;cases this
noncomputable def bv:List Nat:=[9,10,13,38,62,60,34]
noncomputable def aA:List (List Nat):=[[38,60,62],[38,60,62,13],[38,60,62,34,13,10,9],[38,60,34,13,10,9],[38,62,34]]
noncomputable def cx (sg:List Nat) (c:Nat):Int × Int:=if c ∈ sg then (38,(bv.idxOf c:Nat)) else ((c:Nat),0)
noncomputable def bj (sg:List Nat) (t:List Nat):List (Int × Int):=t.map (cx sg)
theorem z0:∀ c ∈ bv,Builtin.Str.occurrences (S bv) (S [c]) 0 (S bv).length 1 = [bv.idxOf c]:=by decide +kernel
theorem il:∀ sg ∈ aA,38 ∈ sg /\ ∀ c ∈ sg,c ∈ bv:=by decide
theorem vS:∀ a ∈ bv,∀ b ∈ bv,bv.idxOf a = bv.idxOf b->a = b:=by decide
variable {sg:List Nat}
theorem ly (h:sg ∈ aA) {a b:Nat} (e:cx sg a = cx sg b):a = b:=by
 obtain ⟨h38,hs⟩:=il sg h;unfold cx at e;split at e <;> split at e
 ·rename_i h1 h2;have:((bv.idxOf a:Nat):Int) = (bv.idxOf b:Nat):=congrArg Prod.snd e;exact vS a (hs a h1) b (hs b h2) (by omega)
 ·rename_i h1 h2;have:(38:Int) = ((b:Nat):Int):=congrArg Prod.fst e;have:b = 38:=by omega
  subst this;exact absurd h38 h2
 ·rename_i h1 h2;have:((a:Nat):Int) = (38:Int):=congrArg Prod.fst e;have:a = 38:=by omega
  subst this;exact absurd h38 h1
 ·have:((a:Nat):Int) = ((b:Nat):Int):=congrArg Prod.fst e;omega
theorem fG {sg:List Nat} (h:sg ∈ aA):∀ {a b:List Nat},bj sg a = bj sg b->a = b
 | [],[],_=>rfl
 | [],_ :: _,e=>by simp [bj] at e
 | _ :: _,[],e=>by simp [bj] at e
 | x :: a,y :: b,e=>by
  simp only [bj,map_cons,List.cons.injEq] at e;rw [ly h e.1,fG h (a:=a) (b:=b) e.2]
theorem uX (h:sg ∈ aA) (nd:ts.Nodup) (h5:ts.length <= 5) {t:List Nat} (ht:t ∈ ts):t ∈ cj (bj sg) ts:=by
 unfold cj;split
 ·exact ht
 ·obtain ⟨i,hi,rfl⟩:=getElem_of_mem ht;have tt:=km (key:=bj sg) nd (fun x _ y _ e=>fG h e)
  obtain ⟨_,h2,h3⟩:=gy tt (by omega) h5
  have hm:bB (fun i j=>ltP (bj sg (ts.getD i [])) (bj sg (ts.getD j []))) ts.length i ∈ (kev (fun i j=>ltP (bj sg (ts.getD i [])) (bj sg (ts.getD j []))) (kas_sort ts.length)).toList.map (bB (fun i j=>ltP (bj sg (ts.getD i [])) (bj sg (ts.getD j []))) ts.length):=by
   rw [h2];exact List.mem_range.mpr (tt.rank_lt hi)
  obtain ⟨j,hj,e⟩:=List.mem_map.mp hm;have:j = i:=by
   rcases Nat.lt_trichotomy j i with z | z | z
   ·rcases tt.tot j i (h3 j hj) hi (ne_of_lt z) with w | w
    ·exact absurd e (ne_of_lt (tt.lt (h3 j hj) w))
    ·exact absurd e.symm (ne_of_lt (tt.lt hi w))
   ·exact z
   ·rcases tt.tot j i (h3 j hj) hi (ne_of_gt z) with w | w
    ·exact absurd e (ne_of_lt (tt.lt (h3 j hj) w))
    ·exact absurd e.symm (ne_of_lt (tt.lt hi w))
  subst this;exact List.mem_map.mpr ⟨j,hj,by simp [List.getD,hi]⟩
noncomputable def aV (texts:List (List Nat)):List (List (List Nat)):=aA.map fun sg=>cj (bj sg) texts
noncomputable def bN (votes:List Int) (texts:List (List Nat)) (one text:List Nat):Int:=
 (((List.range 5).filter fun k=>decide ((((aV texts).getD k []).idxOf one:Int) < (((aV texts).getD k []).idxOf text:Int))).map fun k=>votes.getD k 0).sum
noncomputable def iZ (votes:List Int) (texts:List (List Nat)):List (List (List Nat)):=texts.map fun text=>texts.filter fun one=>decide (votes.sum < 2 * bN votes texts one text)
theorem tT:∀ (l:List Int),(∀ x ∈ l,0 <= x /\ x < 1000)->0 <= l.sum /\ l.sum <= 1000 * l.length
 | [],_=>by simp
 | x :: l,h=>by
  have:=tT l fun y hy=>h y (.tail _ hy)
  have:=h x (.head _);rw [List.sum_cons,length_cons];omega
theorem jD {row:List (List Nat)} {t:List Nat} (h:t ∈ row):(row.map ag).findIdx? (fun y=>y.eqv (ag t)) = some (row.idxOf t):=by
 rw [List.findIdx?_map];have:((fun y:D=>y.eqv (ag t)) ∘ ag) = fun x:List Nat=>x == t:=by
  funext x
  show (ag x).eqv (ag t) = _;rw [fK];by_cases e:x = t <;> simp [e]
 rw [this];exact List.findIdx?_eq_some_iff_findIdx_eq.mpr ⟨List.idxOf_lt_length_iff.mpr h,rfl⟩
theorem ur (h:sg ∈ aA) (nd:ts.Nodup) (h5:ts.length <= 5) {t:List Nat} (ht:t ∈ cj (bj sg) ts):t ∈ ts:=by
 unfold cj at ht;split at ht
 ·exact ht
 ·obtain ⟨_,h2,h3⟩:=gy (km (key:=bj sg) nd (fun x _ y _ e=>fG h e)) (by omega) h5
  obtain ⟨i,hi,rfl⟩:=List.mem_map.mp ht;exact aF ts i [] (h3 i hi)
theorem uR (h:sg ∈ aA) (nd:ts.Nodup) (h5:ts.length <= 5):(cj (bj sg) ts).length = ts.length:=by
 unfold cj;split
 ·rfl
 ·obtain ⟨_,h2,h3⟩:=gy (km (key:=bj sg) nd (fun x _ y _ e=>fG h e)) (by omega) h5
  have:=congrArg List.length h2;rw [length_map,length_range] at this;rw [length_map];exact this
theorem yt (votes:List Int) (l:List Nat):(l.map fun k=>D.int (votes.getD k 0)) = (l.map fun k=>votes.getD k 0).map .int:=by rw [map_map];rfl
theorem ya (votes:List Int) (texts:List (List Nat)) (t:List Nat):fi (texts.map ag) ((texts.filter fun _=>true).map fun q=>.int (bN votes texts q t)) = (texts.zip (texts.map fun o=>bN votes texts o t)).map fun p=>.tup [ag p.1,.int p.2]:=by
 rw [List.filter_eq_self.mpr fun _ _=>rfl,<- m6 ag D.int]
 simp only [map_map];rfl
theorem sL (votes:List Int) (texts:List (List Nat)) (t:List Nat):(((texts.zip (texts.map fun o=>bN votes texts o t)).filter fun p=>decide (votes.sum < 2 * p.2)).map fun p=>ag p.1) = (texts.filter fun o=>decide (votes.sum < 2 * bN votes texts o t)).map ag:=by
 rw [<- jc (fun o=>bN votes texts o t) (fun x=>decide (votes.sum < 2 * x)) texts,map_map];rfl
theorem mn {votes:List Int} (hv:iP votes) (texts:List (List Nat)) (t:List Nat) (p:List Nat × Int) (hp:p ∈ texts.zip (texts.map fun o=>bN votes texts o t)):0 <= p.2 /\ p.2 <= 5000:=by
 obtain ⟨x,y⟩:=p;have hy:=(of_mem_zip hp).2;obtain ⟨o,_,rfl⟩:=List.mem_map.mp hy;have hb:=tT (((List.range 5).filter fun k=>decide ((((aV texts).getD k []).idxOf o:Int) < (((aV texts).getD k []).idxOf t:Int))).map fun k=>votes.getD k 0) fun z hz=>by
  obtain ⟨k,hk,rfl⟩:=List.mem_map.mp hz;have hk5:=List.mem_range.mp (List.mem_filter.mp hk).1;have hm:=aF votes k 0 (by rw [hv.len];exact hk5)
  exact ⟨hv.pos _ hm,hv.lt _ hm⟩
 rw [length_map] at hb;have hl:=length_filter_le (fun k=>decide ((((aV texts).getD k []).idxOf o:Int) < (((aV texts).getD k []).idxOf t:Int))) (List.range 5)
 rw [length_range] at hl;have hb':0 <= bN votes texts o t /\ bN votes texts o t <= 1000 * _:=hb;refine ⟨hb'.1,Int.le_trans hb'.2 ?_⟩
 omega
theorem si (h:(scope.names.all fun p=>(p.2 != .free) || (match μ p.1 with | some d=>d.atom | none=>true)) = true):∀ y d,seen scope μ y = some d->d.atom = true:=fun y d e=>by
 unfold seen at e;split at e
 ·rename_i hm;have:=List.all_eq_true.mp h _ hm;simpa [e] using this
 ·cases e
set_option maxHeartbeats 0 in
theorem w9 (hW:Wok W T) (hK:W.K = hd.heap_39 P) (lw:po W T 204) (hlp:W.lpos = ⟨227,38,227,137⟩) (hlq:W.lq = Str.ofString "_law_told.<locals>.<lambda>") (votes:List Int) (texts:List (List Nat)) (hv:iP votes) (ht:aG texts) (nd:texts.Nodup) (hl:texts.length <= 5) :
  FP W T 4 (.ref 205) [.list (votes.map .int),.list (texts.map ag)] (.list ((iZ votes texts).map fun l=>.list (l.map ag))):=by
 refine dH hW (by rw [hK];with_unfolding_all rfl) rfl (by rw [hK];with_unfolding_all rfl) rfl rfl rfl (names:=[Str.ofString "votes",Str.ofString "texts"]) (vs2 fun _ _=>rfl) (by decide +kernel) (by decide +kernel) ?_ ?_ ?_ (fun L=>?_) (Θ':=[.gone,.gone])
 ·simp [D.nrL,D.nr,g6,cR]
 ·rfl
 ·exact ke _
 refine ae (cL hW (cm hW ak (by decide)) rfl rfl) ?_
 refine ae (dJ (bw hW (aY hW (af bl (af bl (af bl (af bl (af bl ak))))) (by decide)) rfl)
  (dm ag (fun (rs:List (List (List Nat))) sg=>rs ++ [cj (bj sg) texts]) (fun rs=>[.mlist (rs.map fun r=>.list (r.map ag))]) (fun k rs=>rs.length + k <= 5) aA [] (fun rs sg k hm hi=>⟨by rw [length_append,length_singleton];omega,_,_,ay hW rfl,?_,aJ (x:=Str.ofString "signs") (d:=ag sg) rfl⟩) (by decide)) rfl) ?_
 ·refine ae (EX.eqT (fg hW (i:=0) rfl rfl (by rw [length_map];omega) (EVF.ev (ui hW (n:=1) (x:=Str.ofString "text") (ts:=texts) (key:=bj sg) lw (l7 hK rfl) (aa rfl rfl) rfl rfl hlp.symm (by rw [hlq];rfl) rfl rfl rfl rfl rfl rfl rfl (fun _ _ _ _ _=>rfl) ?_ nd (fun x _ y _ e=>fG hm e) hl (fun t ht' L' f cv=>?_))) rfl) ?_) ar
  ·exact si rfl
  ·obtain ⟨h38,hs7⟩:=il sg hm;refine EVP.eq (EVF.ev (bW hW (is:=t) (g:=fun c=>ag [c]) (fun c=>upd (seen _ _) (Str.ofString "sign") (ag [c])) (fun _=>true) (fun c=>dh (cx sg c)) (xy hW (aa rfl rfl) rfl) (cc rfl rfl rfl rfl) (fun _ _ _=>rfl) (fun L c _=>ay hW rfl) (fun c _=>aJ rfl) (fun L c _=>d9)
    (fun L c hc _=>v9 (TST.eq (au (aa rfl rfl) (aa rfl rfl) mo) (jJ sg c)) (fun hb=>?_) (fun hb=>?_)) (by have:=(ht t ht').1;omega))) (by rw [q7,fN,bj,map_map];rfl)
   ·have hcs:c ∈ sg:=by simpa using hb
    exact EVP.eq (hV hW (af aq (af (fk (EVP.eq bl rfl) (aa rfl rfl) (qH (z0 c (hs7 c hcs))) PySem.F.plainAttrs_str PySem.F.slot_str_index PySem.F.type_str_index (fun _ _ _ _ d=>d.ty_str)) ak)) (by show 2 <= 1000;decide)) (by rw [cx,if_pos hcs];rfl)
   ·have hcs:c ∉ sg:=by simpa using hb
    exact EVP.eq (hV hW (af (a7 hW (xj hK rfl) (af (aa rfl rfl) ak) yY rfl) (af aq ak)) (by show 2 <= 1000;decide)) (by rw [cx,if_neg hcs];rfl)
  ·show [ac.mlist (_ ++ [_])] = _;rw [map_append];rfl
 have eR:aA.foldl (fun (rs:List (List (List Nat))) sg=>rs ++ [cj (bj sg) texts]) [] = aV texts:=fh (fun sg=>cj (bj sg) texts) aA []
 have cpT:∀ t ∈ texts,fO t:=ht.cp;have srtOk:∀ k,k < 5->(∀ t ∈ texts,t ∈ (aV texts).getD k []) /\ (∀ t ∈ (aV texts).getD k [],fO t) /\ ((aV texts).getD k []).length <= 5:=fun k hk=>by
  have hmem:(aV texts).getD k [] ∈ aV texts:=aF _ k [] (by show k < 5;exact hk)
  obtain ⟨sg,hsg,e⟩:=List.mem_map.mp hmem;rw [<- e];refine ⟨fun t htm=>uX hsg nd hl htm,fun t htm=>cpT t (ur hsg nd hl htm),?_⟩
  rw [uR hsg nd hl];exact hl
 refine EX.freeze (x:=Str.ofString "rows") (i:=0) (ds:=(aV texts).map fun r=>.list (r.map ag)) rfl (by rw [eR];rfl) ?_
 refine ae (cL hW (cm hW ak (by decide)) rfl rfl) ?_
 refine ae (dJ (bw hW (aa rfl rfl) rfl)
  (dm ag (fun (ah:List (List (List Nat))) t=>ah ++ [texts.filter fun one=>decide (votes.sum < 2 * bN votes texts one t)]) (fun ah=>[.gone,.mlist (ah.map fun l=>.list (l.map ag))]) (fun k ah=>ah.length + k <= 5) texts [] (fun ah t k hm hi=>
   ⟨by rw [length_append,length_singleton];omega,_,_,ay hW rfl,?_,bx (aJ (x:=Str.ofString "text") (d:=ag t) rfl) (x:=Str.ofString "sums") (d:=.list ((texts.filter fun _=>true).map fun q=>.int (bN votes texts q t))) (.inr rfl)⟩) (by simpa using hl)) rfl) ?_
 ·refine ae (kg hW (is:=texts) (g:=ag) (fun q=>upd (seen _ _) (Str.ofString "one") (ag q)) (fun _=>true) (fun q=>.int (bN votes texts q t)) (bw hW (aa rfl rfl) rfl) (cc rfl rfl rfl rfl) (fun _ _ _=>rfl) (fun L q _=>ay hW rfl) (fun q _=>aJ rfl) (fun L q _=>d9)
   (fun L' q hq _=>?_) (by omega) rfl) ?_
  ·refine a7 hW (iJ hK rfl) (af (EVF.ev (EVF.eq (bW hW (is:=List.range 5) (g:=fun i=>.int (i:Int)) (fun i=>upd (seen _ _) (Str.ofString "k") (.int (i:Int))) (fun k=>decide ((((aV texts).getD k []).idxOf q:Int) < (((aV texts).getD k []).idxOf t:Int))) (fun k=>.int (votes.getD k 0))
    (ITR.eq (dS hW (cO hK rfl) aq (by decide) (by decide) rfl) (fU 5)) (cc rfl rfl rfl rfl) (fun _ _ _=>rfl) (fun L i _=>ay hW rfl) (fun i _=>aJ rfl) (fun L'' k hk=>?_) (fun L'' k hk _=>?_) (by decide)) (yt votes _))) ak) (jY hW) rfl
   ·have hk5:k < 5:=List.mem_range.mp hk;obtain ⟨m1,m2,m3⟩:=srtOk k hk5;have fr:cU (.list (((aV texts).getD k []).map ag)):=(aH m2).fine;have rw':((aV texts).map fun r=>D.list (r.map ag))[((k:Int)).toNat]? = some (.list (((aV texts).getD k []).map ag)):=by
     rw [Int.toNat_natCast,getElem?_map,bc (aV texts) [] (by show k < 5;exact hk5)];rfl
    exact bK (au (fk (bZ (aa rfl rfl) (aa rfl rfl) (Int.natCast_nonneg k) rw' (by omega)) (aa rfl rfl) (gD fr (a8 (cpT q hq)).fine (jD (m1 q hq)) (by rw [length_map];omega)) PySem.F.plainAttrs_list PySem.F.slot_list_index PySem.F.type_list_index (fun _ _ _ _ d=>d.ty_list))
     (fk (bZ (aa rfl rfl) (aa rfl rfl) (Int.natCast_nonneg k) rw' (by omega)) (aa rfl rfl) (gD fr (a8 (cpT t hm)).fine (jD (m1 t hm)) (by rw [length_map];omega)) PySem.F.plainAttrs_list PySem.F.slot_list_index PySem.F.type_list_index (fun _ _ _ _ d=>d.ty_list)) sH)
   ·have hk5:k < 5:=List.mem_range.mp hk;exact bZ (aa rfl rfl) (aa rfl rfl) (Int.natCast_nonneg k) (rO votes (by rw [hv.len];exact hk5)) (by omega)
  refine ae (EX.eqT (fg hW (i:=1) rfl rfl (by rw [length_map];omega) (EVF.ev (EVF.eq (bW hW (is:=texts.zip (texts.map fun o=>bN votes texts o t)) (g:=fun p=>.tup [ag p.1,.int p.2]) (fun p=>upd (upd (seen _ _) (Str.ofString "one") (ag p.1)) (Str.ofString "more") (.int p.2)) (fun p=>decide (votes.sum < 2 * p.2)) (fun p=>ag p.1)
   (ITR.eq (iW hW (iK hK rfl) (aa rfl rfl) (aa rfl rfl) rfl) (ya votes texts t)) (cc rfl rfl rfl rfl) (fun _ _ _=>rfl) (fun L p _=>eT hW rfl rfl) (fun p _=>e9 rfl rfl) (fun L p hp=>bK (au (av aq (aa rfl rfl) (mS (by decide) (by decide) ?_ ?_)) (a7 hW (iJ hK rfl) (af (aa rfl rfl) ak) (jY hW) rfl) bU)) (fun L p _ _=>aa rfl rfl) (by rw [length_zip,length_map];omega))
   (sL votes texts t))) rfl) ?_) ar
  ·have:=mn hv texts t p hp;omega
  ·have:=mn hv texts t p hp;omega
  ·show [ac.gone,ac.mlist (_ ++ [_])] = _;rw [map_append];rfl
 have eA:texts.foldl (fun (ah:List (List (List Nat))) t=>ah ++ [texts.filter fun one=>decide (votes.sum < 2 * bN votes texts one t)]) [] = iZ votes texts:=by
  rw [fh (fun t=>texts.filter fun one=>decide (votes.sum < 2 * bN votes texts one t))]
  simp [iZ]
 refine EX.ret_eq (aM (cy (dW (x:=Str.ofString "ahead") (i:=1) rfl rfl) (aa rfl rfl)) rfl) (by rw [eA])
section
open Builtin Builtin.ObjectAttr Builtin.Getset_descriptor
theorem un {h:Heap} {a:Addr} {m:Str->Option Value} (hn:h.Ns a m):∃ od,h.get? a = some od /\ ∀ name,lookIn name od = some (m name):=by
 obtain ⟨od,es,ep,ho,hd,hk,hm⟩:=hn;refine ⟨od,ho,fun name=>?_⟩
 unfold lookIn;rw [hd];dsimp only
 have e:=hm name;unfold nsFind findBy at e;rw [<- Array.find?_toList] at e
 cases q:es.toList.find? (fun e=>e.key.isStr name) with
 | some en=>rw [q] at e;simp only [Option.map_some] at e;rw [<- e]
 | none=>
  rw [q] at e;simp only [Option.map_none] at e;rw [<- e];have:es.toList.any (·.refKey) = false:=by
   rw [List.any_eq_false];intro x hx;obtain ⟨nn,t,z⟩:=hk x (Array.mem_def.mpr hx);simp [DictEntry.refKey,z]
  simp [this]
theorem Den.handed {h:Heap} {O:List Addr} {M:Addr->Prop} {v:Value} {d:D} (x:Den h O M v d):handedIn v = true:=by cases x <;> rfl
theorem cD {M0:Addr->Prop} {h:Heap} {O:List Addr} {i j:Nat} {a C:Addr} {ss:List (Option D)} {m:List (Str × D)} {P:Prop} (R:RpH W T M0 Θ h O) (ha:O[i]? = some a) (hi:Θ[i]? = some (.minst C j ss)) (hj:Θ[j]? = some (.mns m))
  (k:∀ dx vs od vm,h.get? a = some (jd C dx vs)->O[j]? = some dx->h.get? dx = some od->InstAt h a (jd C dx vs) C (some od)->h.Ns1 dx vm->(∀ x,fj h O (Mx M0 O Θ) (vm x) (m.lookup x))->(∀ name,lookIn name od = some (vm name))->bQ h O (Mx M0 O Θ) vs ss->P):P:=by
 obtain ⟨dx,vs,e,ej,dl⟩:=R.obs i a _ ha hi;obtain ⟨vm,hn,hv⟩:=R.obs j dx _ ej hj;obtain ⟨od,e2,hl⟩:=un hn.ns;exact k dx vs od vm e ej e2 ⟨e,rfl,rfl,e2⟩ hn hv hl dl
structure cT (K:Frag) (C:Addr) (dict:Bool):Prop where
 ga:findIn K (.ref C) "__getattribute__" = some (some (.builtin "object.__getattribute__"))
 gk:findIn K (.ref C) "__getattr__" = some none
 sa:findIn K (.ref C) "__setattr__" = some (some (.builtin "object.__setattr__"))
 over:plainOver K C = true
 cd:(clsIn K C).any (fun cd=>cd.hasDict == dict) = true
theorem pM {K:Frag} {C:Addr} {od:Obj} {name:Str} {v:Value} (F:cT K C true) (hf:findIn K (.ref C) name = some none) (hl:lookIn name od = some (some v)):findObj K C (some od) name = some (.value v):=by
 obtain ⟨cd,hc,hd⟩:=any_some F.cd;have hd:cd.hasDict = true:=by simpa using hd
 unfold findObj PySem.W.ownOf;simp [hc,hf,hd,hl]
theorem dj (hW:Wok W T) {e:Expr} {name:Str} {pos:Pos} {i j:Nat} {C:Addr} {ss:List (Option D)} {m:List (Str × D)} {d:D} (F:cT W.K C true) (he:EVM W T n env μ Θ (eval e env) (.ref i) μ' Θ') (hi:Θ'[i]? = some (.minst C j ss)) (hj:Θ'[j]? = some (.mns m)) (hm:m.lookup name = some d)
  (hf:findIn W.K (.ref C) name = some none) (hb:autoParam (attributeBase e name env (eval e env) = eval e env) rfT):EVM W T n env μ Θ (eval (.Attribute e name pos) env) d μ' Θ':=by
 refine .of ?_;intro A s vm O M0 r t R Q E q;refine Attribute_any_ (he.run A s vm O M0 r t R _ _ fun v h1a tA vm1 O1 lA R1 xA dA=>?_) (by rw [arm_eval_Attribute,hb])
 induction dA using rE with
 | ref ha=>
 rename_i a;refine cD R1.toRpH ha hi hj fun dx vs od vk e1 ej e2 I hn hv hl dl=>?_
 have z:=hv name;rw [hm] at z
 cases y:vk name with
 | none=>rw [y] at z;cases z
 | some v=>
 rw [y] at z
 cases z with
 | some z=>
 refine get_value (s:={ s with heap:=h1a,toks:=tA }) R1.gd.k I F.ga (pM F hf (by rw [hl,y])) z.handed ?_
 exact q v h1a (tA + 1) vm1 O1 (Nat.le_trans lA (le_succ _)) R1 xA z
theorem bQ.get {h:Heap} {O:List Addr} {M:Addr->Prop} {vs:List (Option Value)} {ss:List (Option D)} (x:bQ h O M vs ss):∀ {k:Nat} {d:D},ss[k]? = some (some d)->∃ v,vs[k]? = some (some v) /\ Den h O M v d:=by
 induction x with
 | nil=>intro k d e;simp at e
 | cons y _ ih=>
  intro k d e
  cases k with
  | zero=>
   simp at e
   subst e
   cases y with
   | some z=>exact ⟨_,rfl,z⟩
  | succ k=>
   obtain ⟨v,e1,z⟩:=ih (k:=k) (d:=d) (by simpa using e)
   exact ⟨v,by simpa using e1,z⟩
theorem bQ.length {h:Heap} {O:List Addr} {M:Addr->Prop} {vs:List (Option Value)} {ss:List (Option D)} (x:bQ h O M vs ss):vs.length = ss.length:=by
 induction x with
 | nil=>rfl
 | cons _ _ ih=>simp [ih]
structure fn (K:Frag) (C:Addr) (name:Str) (p:Addr) (k:Nat):Prop where
 slot:slotIn K p C = some k
 find:∀ od,findObj K C od name = some (.bind (.builtin "member_descriptor.__get__") (.ref p))
 taker:takerIn K C name = some (some (.ref p))
 typ:typeIn K (.ref p) = some (.type "member_descriptor")
theorem fH (hW:Wok W T) {e:Expr} {name:Str} {pos:Pos} {i j k:Nat} {C p:Addr} {ss:List (Option D)} {m:List (Str × D)} {d:D} (F:cT W.K C false) (S:fn W.K C name p k) (he:EVM W T n env μ Θ (eval e env) (.ref i) μ' Θ') (hi:Θ'[i]? = some (.minst C j ss)) (hj:Θ'[j]? = some (.mns m)) (hk:ss[k]? = some (some d))
  (hb:autoParam (attributeBase e name env (eval e env) = eval e env) rfT):EVM W T n env μ Θ (eval (.Attribute e name pos) env) d μ' Θ':=by
 refine .of ?_;intro A s vm O M0 r t R Q E q;refine Attribute_any_ (he.run A s vm O M0 r t R _ _ fun v h1a tA vm1 O1 lA R1 xA dA=>?_) (by rw [arm_eval_Attribute,hb])
 induction dA using rE with
 | ref ha=>
 rename_i a;refine cD R1.toRpH ha hi hj fun dx vs od vk e1 ej e2 I hn hv hl dl=>?_
 obtain ⟨v,ev,dv⟩:=dl.get hk;refine get_bind (s:={ s with heap:=h1a,toks:=tA }) R1.gd.k I F.ga (S.find _) F.gk (wpAny_call (slot_get R1.gd.k I S.slot (v:=v) (by
  show ((vs.toArray)[k]?).join = some v;simp [ev]) ?_))
 show wpAny _ _ (handedOut v) _ _ _;rw [handedOut_of dv.handed];exact wpAny_pure (q v h1a (tA + 1) vm1 O1 (Nat.le_trans lA (le_succ _)) R1 xA dv)
noncomputable def d5:List (Str × D)->Str->D->List (Str × D)
 | [],x,d=>[(x,d)]
 | (y,e) :: r,x,d=>if y = x then (y,d) :: r else (y,e) :: d5 r x d
theorem lj (x:Str) (d:D) (z:Str):∀ l:List (Str × D),(d5 l x d).lookup z = if z = x then some d else l.lookup z
 | []=>by
  by_cases h:z = x
  ·subst h;simp [d5,List.lookup]
  ·have:(z == x) = false:=by simp [h]
   simp [d5,List.lookup,this,h]
 | (y,e) :: r=>by
  unfold d5;by_cases hy:y = x
  ·subst hy;by_cases h:z = y
   ·subst h;simp [List.lookup]
   ·have:(z == y) = false:=by simp [h]
    simp [List.lookup,this,h]
  ·rw [if_neg hy];by_cases h:z = y
   ·subst h;simp [List.lookup,hy]
   ·have:(z == y) = false:=by simp [h]
    simp only [List.lookup,this];exact lj x d z r
theorem pu (x:Str) (d:D):∀ l:List (Str × D),(d5 l x d).length <= l.length + 1
 | []=>by simp [d5]
 | (y,e) :: r=>by
  unfold d5;split
  ·simp
  ·have:=pu x d r;simp only [length_cons];omega
theorem pp {h:Heap} {O:List Addr} {M:Addr->Prop} {vk:Str->Option Value} {m:List (Str × D)} {name:Str} {v:Value} {d:D} (hv:∀ x,fj h O M (vk x) (m.lookup x)) (dv:Den h O M v d):∀ x,fj h O M (if x = name then some v else vk x) ((d5 m name d).lookup x):=fun x=>by
 rw [lj];split
 ·exact .some dv
 ·exact hv x
theorem my {α:Type} {x:Str} {a:α}:∀ {l:List (Str × α)},l.lookup x = some a->x ∈ l.map (·.1)
 | (y,e) :: r,h=>by
  by_cases hx:x = y
  ·subst hx;simp
  ·have:(x == y) = false:=by simp [hx]
   simp only [List.lookup,this] at h;exact .tail _ (my h)
theorem mj (hW:Wok W T) {M0:Addr->Prop} {A:Around} {s:Shared} {O:List Addr} {i j:Nat} {a C:Addr} {ss:List (Option D)} {m:List (Str × D)} {name:Str} {v:Value} {d:D} (F:cT W.K C true) (R:RpH W T M0 Θ s.heap O) (ha:O[i]? = some a)
  (hi:Θ[i]? = some (.minst C j ss)) (hj:Θ[j]? = some (.mns m)) (ht:takerIn W.K C name = some none) (hsz:m.length <= 100) (dv:Den s.heap O (Mx M0 O Θ) v d) {Q:Unit->Shared->Prop} {E:Value->Shared->Prop}
  (q:∀ h' tk,s.toks <= tk->RpH W T M0 (Θ.set j (.mns (d5 m name d))) h' O->Nx W Nox s.heap O Θ h' O (Θ.set j (.mns (d5 m name d)))->Q () { s with heap:=h',toks:=tk }) :
  wpAny (model W.prog W.w) A (setAttr (.ref a) name v) Q E s:=by
 refine cD R ha hi hj fun dx vs od vk e1 ej e2 I hn hv hl dl=>?_
 refine set_plain R.gd.k I F.sa ?_
 refine osa_open (s:={ s with toks:=s.toks + 1 }) R.gd.k I F.over ht fun b=>?_
 obtain ⟨cd,hc,hd'⟩:=any_some F.cd;have hd':cd.hasDict = true:=by simpa using hd'
 refine wpAny_bind (wpAny_pure (wpAny_bind (wpAny_bind (wpAny_loadPart e1 (wpAny_bind (Looks.here (s:={ s with toks:=s.toks + 1 }) (looks_clsIn R.gd.k hc) ?_))))))
 rw [hd'];refine wpAny_pure (a:=some dx) (wpAny_bind (wpAny_pure (wpAny_bind ?_)))
 refine wpAny_nsSet1 (s:={ s with toks:=s.toks + 1 }) hn fun h' hn' sb=>?_
 have wi:Within (fun x=>if x = name then some v else vk x) ((d5 m name d).map (·.1)):=fun x hx=>by
  have z:=pp (name:=name) hv dv x
  cases y:(d5 m name d).lookup x with
  | none=>rw [y] at z;cases hz:(if x = name then some v else vk x) with
   | none=>exact absurd hz hx
   | some _=>rw [hz] at z;cases z
  | some _=>exact my y
 obtain ⟨oD,esD,epD,hoD,hdD,hcD⟩:=hn'.count wi;refine wpAny_bind (wpAny_lookBehind hoD (by
  rw [hdD];refine pastItsLine_dict (Nat.le_trans hcD ?_)
  rw [length_map,sizeLine_eq];have:=pu name d m;omega) (wpAny_pure ?_))
 have la:bf O Θ dx:=⟨j,_,ej,hj,fun q=>by cases q⟩
 have ks:aN (Mx M0 O Θ) s.heap h':=fun b ob xs k nb e _=>(sb.2 b fun z=>nb (.inr (z ▸ la))).trans e
 obtain ⟨R',x'⟩:=R.upd hW (ob':=.mns (d5 m name d)) ej hj (fun q=>by cases q) (fun q=>by cases q) sb ⟨_,hn',fun x=>jh ks (fun _ _ e=>e) (fun _ m _=>m) (pp hv dv x)⟩
 exact q h' _ (Nat.le_trans (le_succ _) (le_succ _)) R' x'
theorem bQ.put {h:Heap} {O:List Addr} {M:Addr->Prop} {vs:List (Option Value)} {ss:List (Option D)} (x:bQ h O M vs ss) {v:Value} {d:D} (dv:Den h O M v d):∀ k,bQ h O M (vs.set k (some v)) (ss.set k (some d)):=by
 induction x with
 | nil=>intro k;exact .nil
 | cons y z ih=>
  intro k
  cases k with
  | zero=>exact .cons (.some dv) z
  | succ k=>exact .cons y (ih k)
theorem bQ.pad {h:Heap} {O:List Addr} {M:Addr->Prop} {vs:List (Option Value)} {ss:List (Option D)} (x:bQ h O M vs ss):∀ k,bQ h O M (vs ++ List.replicate k none) (ss ++ List.replicate k none):=fun k=>by
 induction x with
 | nil=>
  induction k with
  | zero=>exact .nil
  | succ k ih=>exact .cons .none ih
 | cons y z ih=>exact .cons y ih
noncomputable def fW (ss:List (Option D)) (k:Nat) (d:D):List (Option D):=(ss ++ List.replicate (k + 1 - ss.length) none).set k (some d)
theorem tM {A:Around} {s:Shared} {R:Result->Shared->Prop} {a C p dx:Addr} {od:Option Obj} {vs:List (Option Value)} {n:Str} {tn tb:Tok} {owner:Value} {behind:Int} {d':Option Addr} {sl:Array (Option Value)} {cd:ClassData} {v:Value} (gk:W.K.In s.heap) (I:InstAt s.heap a (jd C dx vs) C od) (e1:s.heap.get? a = some (jd C dx vs))
  (ho:s.heap.get? p = some ⟨.type "member_descriptor",d',.fields #[.str n tn,owner,.builtin "proto.slot",.builtin "proto.slot#set",.int behind tb],sl⟩) (hc:clsIn W.K C = some cd) (hm:mroIn W.K C owner = some true) (hb:¬ cd.slotNames.length <= behind.toNat) (hk:cd.slotNames.length - 1 - behind.toNat < 1000)
  (h:∀ h',Heap.SameBut a s.heap h'->h'.get? a = some (jd C dx ((vs ++ List.replicate (cd.slotNames.length - 1 - behind.toNat + 1 - vs.length) none).set (cd.slotNames.length - 1 - behind.toNat) (some v)))->R (.ok (.ret .none)) { s with heap:=h' }) :
  codeAny (model W.prog W.w) A (.call (.builtin "member_descriptor.__set__") ⟨[.ref p,.ref a,v],[]⟩) R s:=by
 have L0:=I.type (M:=model W.prog W.w);have L1:=looks_mroIn (M:=model W.prog W.w) gk hm;have L2:Looks (model W.prog W.w) s.heap (Slots.slotNamesOf (.ref C)) cd.slotNames:=(looks_clsIn gk hc).andThen .now;have f0:=looks_field (M:=model W.prog W.w) ho 0 (v:=.str n tn) rfl;have f1:=looks_field (M:=model W.prog W.w) ho 1 (v:=owner) rfl;have f3:=looks_field (M:=model W.prog W.w) ho 3 (v:=.builtin "proto.slot#set") rfl;have f4:=looks_field (M:=model W.prog W.w) ho 4 (v:=.int behind tb) rfl;refine codeAny_call_builtin KF.slot_mset.plain KF.entry_mset (KF.slot_mset.check _ _ _ _ _ _ _ _ ⟨_,ho,rfl⟩ (KF.args_mset _ _ _) ?_)
 unfold Builtin.«member_descriptor.__set__» descrSet descrStoreThrough descrCheckInstance descrNameAndClass isInstance;have f5:Looks (model W.prog W.w) s.heap (descrItself (.ref p)) [.ref p]:=((Looks.ld (part:=none) ho).andThen .now).andThen (Looks.of_pure (by kernel_rfl))
 clear gk hc hm I ho;repeat lk
 refine ⟨Code.quiet_builtin _ (by decide +kernel),codeAny_builtin KF.entry_slotset ?_⟩
 unfold Builtin.«proto.slot#set» Slots.target;repeat lk
 rw [if_neg hb];refine wpAny_pure (wpAny_bind ?_)
 clear L0 L1 L2 f0 f1 f3 f4 f5 hb;unfold setSlotAt;dsimp only
 generalize cd.slotNames.length - 1 - behind.toNat = k at *;rw [if_neg (by rw [sizeLine_eq];omega)]
 refine wpAny_updatePart e1 (wpAny_pure ?_)
 refine h _ (Heap.SameBut.update _ _ _) ?_
 rw [Heap.get?_update_self _ e1 rfl];unfold jd;congr 2
 apply Array.ext'
 simp
theorem lZ (hW:Wok W T) {M0:Addr->Prop} {A:Around} {s:Shared} {O:List Addr} {i j k:Nat} {a C p:Addr} {ss:List (Option D)} {m:List (Str × D)} {name:Str} {v:Value} {d:D} (F:cT W.K C false) (S:fn W.K C name p k) (R:RpH W T M0 Θ s.heap O) (ha:O[i]? = some a)
  (hi:Θ[i]? = some (.minst C j ss)) (hj:Θ[j]? = some (.mns m)) (hk:k < 1000) (dv:Den s.heap O (Mx M0 O Θ) v d) {Q:Unit->Shared->Prop} {E:Value->Shared->Prop}
  (q:∀ h' tk,s.toks <= tk->RpH W T M0 (Θ.set i (.minst C j (fW ss k d))) h' O->Nx W Nox s.heap O Θ h' O (Θ.set i (.minst C j (fW ss k d)))->Q () { s with heap:=h',toks:=tk }) :
  wpAny (model W.prog W.w) A (setAttr (.ref a) name v) Q E s:=by
 refine cD R ha hi hj fun dx vs od vk e1 ej e2 I hn hv hl dl=>?_
 refine set_plain R.gd.k I F.sa (osa_descr (s:={ s with toks:=s.toks + 1 }) KF.slot_mset R.gd.k I F.over S.taker S.typ ?_)
 obtain ⟨n,tn,owner,behind,tb,d',sl,cd,ho,hc,hm,hb,ek⟩:=slot_of (K:=W.K) R.gd.k S.slot;refine tM (s:={ s with toks:=s.toks + 1 }) R.gd.k I e1 ho hc hm hb (ek ▸ hk) fun h' sb e'=>?_
 rw [<- ek] at e';obtain ⟨R',x'⟩:=R.upd hW (ob':=.minst C j (fW ss k d)) ha hi (fun q=>by cases q) (fun q=>by cases q) sb ⟨dx,_,e',ej,by
  unfold fW;rw [<- dl.length];exact ((dl.pad _).put dv _).kq (sr ha hi (fun q=>by cases q) sb)⟩
 exact q _ _ (le_succ _) R' x'
theorem dN (hW:Wok W T) {ob e:Expr} {name:Str} {apos pos:Pos} {i j:Nat} {C:Addr} {ss:List (Option D)} {m:List (Str × D)} {d:D} (F:cT W.K C true) (he:EVM W T n env μ Θ (eval e env) d μ' Θ') (ho:EVM W T n env μ' Θ' (eval ob env) (.ref i) μ'' Θ'')
  (hi:Θ''[i]? = some (.minst C j ss)) (hj:Θ''[j]? = some (.mns m)) (ht:takerIn W.K C name = some none) (hsz:m.length <= 100) (hs:autoParam (swapsWith e (some (.Attribute ob name apos)) pos.line env = pure false) rfT) :
  EX W T n env μ Θ (exec (.Assign [.Attribute ob name apos] e pos) env) (.nxt μ'' (Θ''.set j (.mns (d5 m name d)))):=by
 refine .of ?_;intro A s vm O M0 r t R Q E q;refine plainObj_wpAny_Assign_Attribute (he.run A s vm O M0 r t R _ _ fun v h1a tA vm1 O1 lA R1 xA dA=>?_) hs
 refine ho.run A _ vm1 O1 M0 r (Nat.le_trans t lA) R1 _ _ fun w hJ tJ vm2 O2 lB R2 x2 dB=>?_
 induction dB using rE with
 | ref ha=>
 refine mj (s:={ s with heap:=hJ,toks:=tJ }) hW F R2.toRpH ha hi hj ht hsz (dA.nx R1 x2) fun h3a tC l3 R3 xC=>?_
 exact q _ h3a tC (Nat.le_trans lA (Nat.le_trans lB l3)) ⟨rfl,vm2,O2,R2.called R3 xC,((xA.trans x2 R.len).trans xC.wide R.len)⟩
theorem eK (hW:Wok W T) {ob e:Expr} {name:Str} {apos pos:Pos} {i j k:Nat} {C p:Addr} {ss:List (Option D)} {m:List (Str × D)} {d:D} (F:cT W.K C false) (S:fn W.K C name p k) (he:EVM W T n env μ Θ (eval e env) d μ' Θ') (ho:EVM W T n env μ' Θ' (eval ob env) (.ref i) μ'' Θ'')
  (hi:Θ''[i]? = some (.minst C j ss)) (hj:Θ''[j]? = some (.mns m)) (hk:k < 1000) (hs:autoParam (swapsWith e (some (.Attribute ob name apos)) pos.line env = pure false) rfT) :
  EX W T n env μ Θ (exec (.Assign [.Attribute ob name apos] e pos) env) (.nxt μ'' (Θ''.set i (.minst C j (fW ss k d)))):=by
 refine .of ?_;intro A s vm O M0 r t R Q E q;refine plainObj_wpAny_Assign_Attribute (he.run A s vm O M0 r t R _ _ fun v h1a tA vm1 O1 lA R1 xA dA=>?_) hs
 refine ho.run A _ vm1 O1 M0 r (Nat.le_trans t lA) R1 _ _ fun w hJ tJ vm2 O2 lB R2 x2 dB=>?_
 induction dB using rE with
 | ref ha=>
 refine lZ (s:={ s with heap:=hJ,toks:=tJ }) hW F S R2.toRpH ha hi hj hk (dA.nx R1 x2) fun h3a tC l3 R3 xC=>?_
 exact q _ h3a tC (Nat.le_trans lA (Nat.le_trans lB l3)) ⟨rfl,vm2,O2,R2.called R3 xC,((xA.trans x2 R.len).trans xC.wide R.len)⟩
end
section
open Builtin Builtin.ObjectAttr
variable {Θ3:List ac}
theorem aL.under {A:Around} {c:Code} (r:aL (n + 1) A) (hw:c.weight <= 1) (hu:c.cUnits <= 10):aL n (A.under c):=
 ⟨r.handled,by have:=r.depth;show A.depth + c.weight + n + 1 < _;omega,by have:=r.units;show A.units + c.cUnits + _ < _;omega⟩
structure MkF (K:Frag) (C f:Addr):Prop where
 made:makesIn K C = true
 init:findIn K (.ref C) "__init__" = some (some (.ref f))
 typ:typeIn K (.ref f) = some (.type "function")
 keep:keepIn K (.ref C) = true
theorem uA (hW:Wok W T) {C f:Addr} {ds:List D} (F:MkF W.K C f) (h:FM W T n (.ref f) (.ref (Θ.length + 1) :: ds) (Θ ++ [.mns [],.minst C Θ.length []]) .none Θ'):FM W T (n + 1) (.ref C) ds Θ (.ref (Θ.length + 1)) Θ':=by
 refine .of ?_;intro A s O M0 vals r t R V P q;obtain ⟨hh,g,dr,tk,os⟩:=s;have R:RpH W T M0 Θ hh O:=R;have V:am hh O (Mx M0 O Θ) vals ds:=V;refine make_core (makes_of R.gd.k F.made) (looks_findIn R.gd.k F.init) (fun self=>bind_fn R.gd.k self F.typ) (.inl rfl) ?_
 -- the dict
 have stA:Stp W T hh (hh.push emptyDict):=.of hW R.gd fun a o e=>Heap.get?_push_of_some _ e
 obtain ⟨R1,xA⟩:=R.new (a:=hh.objs.size) (ob:=.mns []) stA az R.gd.size (by rw [Heap.get?_push_size _ rfl];rfl) ⟨fun _=>none,Heap.Ns1.of_empty ⟨_,#[],0,Heap.get?_push_size _ rfl,rfl,fun e he=>by simp at he,fun _=>rfl⟩,fun x=>.none⟩
 have hsz:(hh.push emptyDict).objs.size = hh.objs.size + 1:=Heap.size_push ..;have stB:Stp W T (hh.push emptyDict) ((hh.push emptyDict).push (instObj C hh.objs.size)):=.of hW R1.gd fun a o e=>Heap.get?_push_of_some _ e
 have gx:((hh.push emptyDict).push (instObj C hh.objs.size)).get? (hh.objs.size + 1) = some (instObj C hh.objs.size):=by rw [<- hsz];exact Heap.get?_push_size _ rfl
 have lenO:O.length = Θ.length:=R.len;obtain ⟨R2,x2⟩:=R1.new (a:=hh.objs.size + 1) (ob:=.minst C Θ.length []) stB (by rw [<- hsz];exact az) (Nat.le_trans R.gd.size (le_succ _)) (by rw [gx];rfl) ⟨hh.objs.size,[],gx,by
  rw [List.getElem?_append_left (by simp [lenO]),<- lenO];simp,.nil⟩
 rw [append_assoc] at R2 x2;have x12:=xA.trans x2 R.len;have dself:Den ((hh.push emptyDict).push (instObj C hh.objs.size)) (O ++ [hh.objs.size] ++ [hh.objs.size + 1]) (Mx M0 (O ++ [hh.objs.size] ++ [hh.objs.size + 1]) (Θ ++ [.mns [],.minst C Θ.length []])) (.ref (hh.objs.size + 1)) (.ref (Θ.length + 1)):=
  .ref (by rw [<- lenO];simp)
 rw [append_assoc] at R2 x12 dself;refine h.code _ { heap:=(hh.push emptyDict).push (instObj C hh.objs.size),gens:=g,drawn:=dr,toks:=tk,os:=os } _ M0 _ (r.under (c:=.builtin "type.__call__" ⟨.ref C :: vals,[]⟩) (le_of_eq (by with_unfolding_all rfl)) (Nat.le_trans (le_of_eq (show _ = 1 by with_unfolding_all rfl)) (by decide))) t R2 (.cons dself (V.nxH R x12)) _ fun v h' tk' O' le R' x' dv=>?_
 induction dv using nE with
 | none=>
 refine And.intro rfl (q _ h' tk' O' le R' (x12.trans x' R.len) (.ref (x'.ext.pre _ _ (by rw [<- lenO];simp))))
theorem t9 (hW:Wok W T) {x:Str} {np pos:Pos} {e:Expr} {es:List Expr} {ds:List D} {f:Value} {d:D} (hx:Glb W env x f) (hk:keepIn W.K f = true) (ha:m0 W T n env μ Θ (e :: es) ds μ' Θ') (hf:FM W T n f ds Θ' d Θ'')
  (he:autoParam (starEach (e :: es) env = (false,eval e env) :: starEach es env) rfT) (hp:autoParam ((backTo pos (starEach es env)).any (·.1) = false) rfT) (hd:autoParam ((x == ("__debug__" : Str)) = false) deT):EVM W T n env μ Θ (eval (.Call (.Name x np) (e :: es) [] pos) env) d μ' Θ'':=by
 refine .of ?_;intro A s vm O M0 r t R Q E q;refine Call_Name rfl (bT hW R.gd R.fm hx ?_ hd)
 refine callWith_K (h₀:=s.heap) R.gd.k hk (ha.run A s vm O M0 pos r t R _ _ fun vs h1a tA vm1 O1 lA R1 xA dA=>⟨R1.gd.k,?_⟩) he hp
 refine hf.run A _ O1 M0 vs r (Nat.le_trans t lA) R1.toRpH dA Q E fun v hJ tJ O2 lB R2 x2 dB=>?_
 exact q v hJ tJ vm1 O2 (Nat.le_trans lA lB) (R1.called R2 x2) (xA.trans x2.wide R.len) dB
theorem r8 (hW:Wok W T) {x:Str} {np pos:Pos} {f:Value} {d:D} (hx:Glb W env x f) (hk:keepIn W.K f = true) (hf:FM W T n f [] Θ d Θ') (hd:autoParam ((x == ("__debug__" : Str)) = false) deT):EVM W T n env μ Θ (eval (.Call (.Name x np) [] [] pos) env) d μ Θ':=by
 refine .of ?_;intro A s vm O M0 r t R Q E q;refine Call_Name rfl (bT hW R.gd R.fm hx ?_ hd)
 refine callWith_K0 R.gd.k hk ?_
 refine hf.run A _ O M0 [] r t R.toRpH .nil Q E fun v hJ tJ O2 lB R2 x2 dB=>?_
 exact q v hJ tJ vm O2 lB (R.called R2 x2) x2.wide dB
theorem iS {M:Model} {A:Around} {E:Value->Shared->Prop} {s:Shared} {Q:Value->Shared->Prop} {ob:Expr} {name:Str} {apos pos:Pos} {args:List Expr} (hb:attributeBase ob name env (eval ob env) = eval ob env) (hform:methodCallForm (args.length + ([]:List Keyword).length) (backTo pos (starEach args env)) [] = true) (hline:(apos.endLine == pos.line) = true)
  (h:wpAny M A (eval ob env) (fun ov sI=>wpAny M A (getMethod ov name (do return (<- importBound ob env).getD true)) (fun p sB=>wpAny M A (callWith pos p.1 p.2 (backTo pos (starEach args env)) []) Q E sB) E sI) E s):wpAny M A (eval (.Call (.Attribute ob name apos) args [] pos) env) Q E s:=by
 rw [arm_eval_Call,hb];refine wpAny_bind (wpAny_mono h (fun ov sI h1a=>wpAny_bind (wpAny_standAt ?_)) fun _ _ x=>x)
 unfold methodCall;have e0:backToKw pos (keywordEach [] env) = []:=rfl;rw [e0,hform];refine wpAny_bind (wpAny_holding (wpAny_mono h1a (fun p sB hJ=>?_) fun _ _ x=>x))
 unfold methodCallPos;simp only [hline,Bool.not_true,Bool.false_or,if_true];exact wpAny_bind (wpAny_pure hJ)
structure io (K:Frag) (C:Addr) (name:Str) (f:Addr):Prop where
 find:findIn K (.ref C) name = some (some (.ref f))
 typ:typeIn K (.ref f) = some (.type "function")
 keep:keepIn K (.ref f) = true
theorem gm {od:Obj} {vk:Str->Option Value} {name:Str} (hl:∀ name,lookIn name od = some (vk name)) (h:vk name = none):shadowIn (some od) name = some false:=by
 unfold shadowIn;simp [hl,h]
theorem cP {h:Heap} {O:List Addr} {M:Addr->Prop} {v:Option Value} (x:fj h O M v none):v = none:=by cases x;rfl
theorem lQ (hW:Wok W T) {b:Bool} {ob e:Expr} {name:Str} {apos pos:Pos} {es:List Expr} {ds:List D} {d:D} {i j:Nat} {C f:Addr} {ss:List (Option D)} {m:List (Str × D)} (F:cT W.K C b) (G:io W.K C name f)
  (ho:EVM W T n env μ Θ (eval ob env) (.ref i) μ' Θ') (hi:Θ'[i]? = some (.minst C j ss)) (hj:Θ'[j]? = some (.mns m)) (hm:m.lookup name = none) (ha:m0 W T n env μ' Θ' (e :: es) ds μ'' Θ'') (hf:FM W T n (.ref f) (.ref i :: ds) Θ'' d Θ3)
  (hb:autoParam (attributeBase ob name env (eval ob env) = eval ob env) rfT) (hform:autoParam (methodCallForm ((e :: es).length + ([]:List Keyword).length) (backTo pos (starEach (e :: es) env)) [] = true) rfT) (hline:autoParam ((apos.endLine == pos.line) = true) rfT)
  (he:autoParam (starEach (e :: es) env = (false,eval e env) :: starEach es env) rfT) (hp:autoParam ((backTo pos (starEach es env)).any (·.1) = false) rfT) :
  EVM W T n env μ Θ (eval (.Call (.Attribute ob name apos) (e :: es) [] pos) env) d μ'' Θ3:=by
 refine .of ?_;intro A s vm O M0 r t R Q E q;refine iS hb hform hline (ho.run A s vm O M0 r t R _ _ fun v h1a tA vm1 O1 lA R1 xA dA=>?_)
 induction dA using rE with
 | ref hai=>
 rename_i a;refine cD R1.toRpH hai hi hj fun dx vs od vk e1 ej e2 I hn hv hl dl=>?_
 have z:=hv name;rw [hm] at z;refine method_fn (s:={ s with heap:=h1a,toks:=tA }) R1.gd.k I F.ga F.gk G.find G.typ (gm hl (cP z)) ?_
 refine callWith_K (h₀:=h1a) R1.gd.k G.keep (ha.run A _ vm1 O1 M0 pos r (Nat.le_trans t lA) R1 _ _ fun vs hJ tJ vm2 O2 lB R2 x2 dB=>⟨R2.gd.k,?_⟩) he hp
 refine hf.run A _ O2 M0 _ r (Nat.le_trans t (Nat.le_trans lA lB)) R2.toRpH (.cons (.ref (x2.ext.pre _ _ hai)) dB) Q E fun v h3a tC O3 l3 R3 xC d3=>?_
 exact q v h3a tC vm2 O3 (Nat.le_trans lA (Nat.le_trans lB l3)) (R2.called R3 xC) ((xA.trans x2 R.len).trans xC.wide R.len) d3
theorem k9 (hW:Wok W T) {b:Bool} {ob:Expr} {name:Str} {apos pos:Pos} {d:D} {i j:Nat} {C f:Addr} {ss:List (Option D)} {m:List (Str × D)} (F:cT W.K C b) (G:io W.K C name f)
  (ho:EVM W T n env μ Θ (eval ob env) (.ref i) μ' Θ') (hi:Θ'[i]? = some (.minst C j ss)) (hj:Θ'[j]? = some (.mns m)) (hm:m.lookup name = none) (hf:FM W T n (.ref f) [.ref i] Θ' d Θ3)
  (hb:autoParam (attributeBase ob name env (eval ob env) = eval ob env) rfT) (hline:autoParam ((apos.endLine == pos.line) = true) rfT) :
  EVM W T n env μ Θ (eval (.Call (.Attribute ob name apos) [] [] pos) env) d μ' Θ3:=by
 refine .of ?_;intro A s vm O M0 r t R Q E q;refine iS hb rfl hline (ho.run A s vm O M0 r t R _ _ fun v h1a tA vm1 O1 lA R1 xA dA=>?_)
 induction dA using rE with
 | ref hai=>
 rename_i a;refine cD R1.toRpH hai hi hj fun dx vs od vk e1 ej e2 I hn hv hl dl=>?_
 have z:=hv name;rw [hm] at z;refine method_fn (s:={ s with heap:=h1a,toks:=tA }) R1.gd.k I F.ga F.gk G.find G.typ (gm hl (cP z)) ?_
 refine callWith_K0 R1.gd.k G.keep ?_
 refine hf.run A _ O1 M0 _ r (Nat.le_trans t lA) R1.toRpH (.cons (.ref hai) .nil) Q E fun v h3a tC O3 l3 R3 xC d3=>?_
 exact q v h3a tC vm1 O3 (Nat.le_trans lA l3) (R1.called R3 xC) (xA.trans xC.wide R.len) d3
end
section
open Builtin Builtin.ObjectAttr
variable {Θ3:List ac}
theorem cI {l r:Expr} {op:CmpOp} {pos:Pos} {a b:D} {t:Bool} (hl:EVM W T n env μ Θ (eval l env) a μ' Θ') (hr:EVM W T n env μ' Θ' (eval r env) b μ'' Θ'') (ho:CMP W T op a b t) (hm:autoParam (behindInMarks op r = false) wuT) :
  TSM W T n env μ Θ (.Compare l [op] [r] pos) t μ'' Θ'':=by
 refine .of ?_;intro A s vm O M0 rm t R Q E q;refine wpAny_isTrue_Compare1 (hl.run A s vm O M0 rm t R _ _ fun x h1a tA vm1 O1 lA R1 xA dA=>?_) hm
 refine hr.run A _ vm1 O1 M0 rm (Nat.le_trans t lA) R1 _ _ fun y hJ tJ vm2 O2 lB R2 x2 dB=>?_
 have tt:0 <= tJ:=Nat.le_trans t (Nat.le_trans lA lB);refine ho.run A _ O2 _ x y rm.handled (by have:=rm.units;omega) (R2.toRpH.ok tt) (dA.nx R1 x2) dB _ E fun h3a tC l3 sC=>wpAny_truthy_bool ?_
 exact q h3a tC vm2 O2 (Nat.le_trans lA (Nat.le_trans lB l3)) (R2.step sC) ((xA.trans x2 R.len).trans (.of sC) R.len)
theorem el {a:D}:CMP W T .IsNot a .none (match a with | .none=>false | _=>true):=by
 refine .of ?_;intro A s O M x y _ _ k dx dy Q E hQ;induction dy using nE;have q:=hQ s.heap s.toks (Nat.le_refl _) (.refl k.gd)
 cases dx with
 | none=>exact wpAny_isNot_self rfl q
 | _=>exact wpAny_isNot_other rfl (fun z=>by cases z) q
theorem pb {k j:Str} {v:Value} {vk:List (Str × Value)}:valueAt ((j,v) :: vk) k = if j = k then some v else valueAt vk k:=by
 unfold valueAt;by_cases h:j = k
 ·simp [h]
 ·simp [h]
theorem dP {α:Type} {k j:Str} {v:α} {vk:List (Str × α)}:((j,v) :: vk).lookup k = if j = k then some v else vk.lookup k:=by
 by_cases h:j = k
 ·subst h;simp [List.lookup]
 ·have:(k == j) = false:=by simp [Ne.symm h]
  simp [List.lookup,this,h]
theorem bY.look {h:Heap} {O:List Addr} {M:Addr->Prop} {vk:List (Str × Value)} {kvs:List (Str × D)} (x:bY h O M vk kvs) (k:Str):fj h O M (valueAt vk k) (kvs.lookup k):=by
 induction x with
 | nil=>exact .none
 | cons y _ ih=>
  rw [pb,dP];split
  ·exact .some y
  ·exact ih
theorem bY.keys {h:Heap} {O:List Addr} {M:Addr->Prop} {vk:List (Str × Value)} {kvs:List (Str × D)} (x:bY h O M vk kvs):vk.map (·.1) = kvs.map (·.1):=by
 induction x with
 | nil=>rfl
 | cons y _ ih=>simp [ih]
theorem bY.length {h:Heap} {O:List Addr} {M:Addr->Prop} {vk:List (Str × Value)} {kvs:List (Str × D)} (x:bY h O M vk kvs):vk.length = kvs.length:=by
 have:=congrArg List.length x.keys;simpa using this
theorem bY.snoc {h:Heap} {O:List Addr} {M:Addr->Prop} {vk:List (Str × Value)} {kvs:List (Str × D)} (x:bY h O M vk kvs) {k:Str} {v:Value} {d:D} (dv:Den h O M v d):bY h O M (vk ++ [(k,v)]) (kvs ++ [(k,d)]):=by
 induction x with
 | nil=>exact .cons dv .nil
 | cons y _ ih=>exact .cons y ih
theorem RpH.sys (hW:Wok W T) {M0:Addr->Prop} {h:Heap} {O:List Addr} (R:RpH W T M0 Θ h O) {i:Nat} {a:Addr} (ha:O[i]? = some a):(a == sysModules) = false:=by
 have h1:=R.above a (mem_of_getElem? ha);have h2:=hW.sb;have h3:sysModules < cStatics:=by decide
 have:a ≠ sysModules:=fun q=>by subst q;exact absurd (Nat.lt_of_lt_of_le (Nat.lt_trans h3 h2) h1) (Nat.lt_irrefl _)
 simp [this]
theorem ji (k:Str) (t:Tok):(strKind W.prog W.w).is k (.str k t) = true:=by
 show Value.isStrOf k (.str k t) = true;simp [Value.isStrOf]
theorem fM {M:Model} {A:Around} {E:Value->Shared->Prop} {s:Shared} {Q:Value->Shared->Prop} {ob:Expr} {name:Str} {id:String} {apos pos:Pos} {args:List Expr} (hb:attributeBase ob name env (eval ob env) = eval ob env) (hform:methodCallForm (args.length + ([]:List Keyword).length) (backTo pos (starEach args env)) [] = true) (hline:(apos.endLine == pos.line) = true)
  (hp:(backTo pos (starEach args env)).any (·.1) = false)
  (h:wpAny M A (eval ob env) (fun ov sI=>wpAny M A (getMethod ov name (do return (<- importBound ob env).getD true)) (fun p sB=>p = (.builtin id,[ov]) /\ wpAny M A (spliced (backTo pos (starEach args env))) (fun vs sC=>wpAny M A (call (.builtin id) (ov :: vs)) Q E sC) E sB) E sI) E s):wpAny M A (eval (.Call (.Attribute ob name apos) args [] pos) env) Q E s:=by
 refine iS hb hform hline (wpAny_mono h (fun ov sI h1a=>wpAny_mono h1a (fun p sB hJ=>?_) fun _ _ x=>x) fun _ _ x=>x)
 obtain ⟨rfl,hJ⟩:=hJ;exact aO rfl hp (iM hJ hp)
theorem ll (hW:Wok W T) {ob e:Expr} {apos pos:Pos} {i:Nat} {k:Str} {kvs:List (Str × D)} {ep:Option Nat} (ho:EVM W T n env μ Θ (eval ob env) (.ref i) μ' Θ') (he:EVM W T n env μ' Θ' (eval e env) (.str k) μ'' Θ'') (hi:Θ'[i]? = some (.mdict kvs ep)) (hi':Θ''[i]? = some (.mdict kvs ep))
  (hb:autoParam (attributeBase ob "get" env (eval ob env) = eval ob env) rfT) (hs:autoParam (starEach [e] env = [(false,eval e env)]) rfT) (hline:autoParam ((apos.endLine == pos.line) = true) rfT) :
  EVM W T n env μ Θ (eval (.Call (.Attribute ob "get" apos) [e] [] pos) env) ((kvs.lookup k).getD .none) μ'' Θ'':=by
 refine .of ?_;intro A s vm O M0 r t R Q E q;refine fM (id := "dict.get") hb (by rw [hs];rfl) hline (by rw [hs];rfl) (ho.run A s vm O M0 r t R _ _ fun v h1a tA vm1 O1 lA R1 xA dA=>?_)
 induction dA using rE with
 | ref ha=>
 rename_i a;obtain ⟨vk1,eI,D1,_,_⟩:=R1.obs i a _ ha hi;refine getMethod_builtin (s:={ s with heap:=h1a,toks:=tA }) D1.dictOf.typeIs PySem.F.plainAttrs_dict PySem.F.slot_dict_get PySem.F.type_dict_get D1.dictOf.mapOf.noDict ⟨rfl,?_⟩
 refine (dg he eV (by rw [hs];rfl)).run A _ vm1 O1 M0 pos r (Nat.le_trans t lA) R1 _ _ fun vs hJ tJ vm2 O2 lB R2 x2 dB=>?_
 induction dB using kE with
 | cons dk dn=>
 induction dn using qE
 cases dk with
 | str _ tk=>
 have haB:=x2.ext.pre _ _ ha;obtain ⟨vk,eJ,D2,_,dl⟩:=R2.obs i a _ haB hi';refine call_meetsIn (s:={ s with heap:=hJ,toks:=tJ }) PySem.F.slot_dict_get D2.dictOf.typeIs PySem.F.entry_dict_get (PySem.F.args_dict_get_2 _ _) (meets_dict_get (strKind W.prog W.w) a (ji k tk) (R2.toRpH.sys hW haB)) ⟨_,D2.dictOf.mapOf,?_⟩
 have z:=dl.look k;refine q _ hJ (tJ + 1) vm2 O2 (Nat.le_trans lA (Nat.le_trans lB (le_succ _))) R2 (xA.trans x2 R.len) ?_
 cases y:kvs.lookup k with
 | none=>rw [y] at z;rw [cP z];exact .none
 | some d=>
  rw [y] at z
  cases w:valueAt vk k with
  | none=>rw [w] at z;cases z
  | some v=>rw [w] at z;cases z with | some z=>exact z
theorem iu (hW:Wok W T) {ob e:Expr} {pos:Pos} {i:Nat} {k:Str} {d:D} {kvs:List (Str × D)} {ep:Option Nat} (ho:EVM W T n env μ Θ (eval ob env) (.ref i) μ' Θ') (he:EVM W T n env μ' Θ' (eval e env) (.str k) μ'' Θ'') (hi':Θ''[i]? = some (.mdict kvs ep)) (hk:kvs.lookup k = some d)
  (hs:autoParam (∀ o i,subscripted e false o i = operate [o,i] (getItem o i)) r2T):EVM W T n env μ Θ (eval (.Subscript ob e pos) env) d μ'' Θ'':=by
 refine .of ?_;intro A s vm O M0 r t R Q E q;refine Subscript_ (ho.run A s vm O M0 r t R _ _ fun v h1a tA vm1 O1 lA R1 xA dA=>?_)
 refine he.run A _ vm1 O1 M0 r (Nat.le_trans t lA) R1 _ _ fun w hJ tJ vm2 O2 lB R2 x2 dB=>?_
 induction dA using rE with
 | ref ha=>
 rename_i a
 induction dB using sE with
 | str tk=>
 have haB:=x2.ext.pre _ _ ha;obtain ⟨vk,eJ,D2,_,dl⟩:=R2.obs i a _ haB hi';have z:=dl.look k;rw [hk] at z
 cases y:valueAt vk k with
 | none=>rw [y] at z;cases z
 | some v=>
 rw [y] at z
 cases z with
 | some z=>
 refine tail_any (s:={ s with heap:=hJ,toks:=tJ }) D2.dictOf.typeIs slot_dict_getitem.lookup (wpAny_getItem_of (ji k tk) D2.dictOf.mapOf y ?_) (hs _ _)
 exact q _ hJ (tJ + 1) vm2 O2 (Nat.le_trans lA (Nat.le_trans lB (le_succ _))) R2 (xA.trans x2 R.len) z
theorem su {vk:List (Str × Value)} {k:Str} {v:Value} (h:valueAt vk k = none):stored vk k v = vk ++ [(k,v)]:=by
 unfold stored;have:vk.any (fun kv=>decide (kv.1 = k)) = false:=by
  unfold valueAt at h;rw [Option.map_eq_none_iff] at h;rw [List.any_eq_false];intro x hx;exact List.find?_eq_none.mp h x hx
 simp [this]
theorem ru (hW:Wok W T) {M0:Addr->Prop} {A:Around} {s:Shared} {O:List Addr} {i:Nat} {a:Addr} {kvs:List (Str × D)} {ep:Option Nat} {k:Str} {tk:Tok} {v:Value} {d:D} (R:RpH W T M0 Θ s.heap O) (ha:O[i]? = some a) (hi:Θ[i]? = some (.mdict kvs ep)) (hk:kvs.lookup k = none) (hsz:kvs.length <= 1000)
  (dv:Den s.heap O (Mx M0 O Θ) v d) {Q:Unit->Shared->Prop} {E:Value->Shared->Prop}
  (q:∀ h' tk,s.toks <= tk->RpH W T M0 (Θ.set i (.mdict (kvs ++ [(k,d)]) none)) h' O->Nx W Nox s.heap O Θ h' O (Θ.set i (.mdict (kvs ++ [(k,d)]) none))->Q () { s with heap:=h',toks:=tk }) :
  wpAny (model W.prog W.w) A (setItem (.ref a) (.str k tk) v) Q E s:=by
 obtain ⟨vk,eJ,D2,_,dl⟩:=R.obs i a _ ha hi;have z:=dl.look k;rw [hk] at z;refine wpAny_setItem_pairs (ji k tk) D2.dictOf (fun h' hd sb=>?_) (by rw [dl.length,sizeLine_eq];omega)
 rw [su (cP z)] at hd;obtain ⟨eC,D3⟩:=hd.dictAt;have la:bf O Θ a:=⟨i,_,ha,hi,fun q=>by cases q⟩
 have ks:aN (Mx M0 O Θ) s.heap h':=fun b ob xs k nb e _=>(sb.2 b fun z=>nb (.inr (z ▸ la))).trans e
 obtain ⟨R',x'⟩:=R.upd hW (ob':=.mdict (kvs ++ [(k,d)]) none) ha hi (fun q=>by cases q) (fun q=>by cases q) sb ⟨_,eC,D3,(fun _ q=>by cases q),(dl.snoc dv).kq ks⟩
 exact q h' _ (le_succ _) R' x'
theorem vD (hW:Wok W T) {ob e val:Expr} {spos pos:Pos} {i:Nat} {k:Str} {d:D} {kvs:List (Str × D)} {ep:Option Nat} (hv:EVM W T n env μ Θ (eval val env) d μ Θ) (ho:EVM W T n env μ Θ (eval ob env) (.ref i) μ Θ) (he:EVM W T n env μ Θ (eval e env) (.str k) μ Θ) (hi:Θ[i]? = some (.mdict kvs ep)) (hk:kvs.lookup k = none) (hsz:kvs.length <= 1000)
  (hs:autoParam (swapsWith val (some (.Subscript ob e spos)) pos.line env = pure false) rfT):EX W T n env μ Θ (exec (.Assign [.Subscript ob e spos] val pos) env) (.nxt μ (Θ.set i (.mdict (kvs ++ [(k,d)]) none))):=by
 refine .of ?_;intro A s vm O M0 r t R Q E q;refine wpAny_Assign_Subscript (hv.run A s vm O M0 r t R _ _ fun v h1a tA vm1 O1 lA R1 xA dA=>?_) hs
 refine ho.run A _ vm1 O1 M0 r (Nat.le_trans t lA) R1 _ _ fun w hJ tJ vm2 O2 lB R2 x2 dB=>?_
 refine he.run A _ vm2 O2 M0 r (Nat.le_trans t (Nat.le_trans lA lB)) R2 _ _ fun w h3a tC vm3 O3 l3 R3 xC d3=>?_
 induction dB using rE with
 | ref ha=>
 induction d3 using sE with
 | str tk=>
 refine ru (s:={ s with heap:=h3a,toks:=tC }) hW R3.toRpH (xC.ext.pre _ _ ha) hi hk hsz ((dA.nx R1 x2).nx R2 xC) fun h4a tD lD R4 xD=>?_
 exact q _ h4a tD (Nat.le_trans lA (Nat.le_trans lB (Nat.le_trans l3 lD))) ⟨rfl,vm3,O3,R3.called R4 xD,(((xA.trans x2 R.len).trans xC R.len).trans xD.wide R.len)⟩
end
section
open Builtin Builtin.ObjectAttr
variable {Θ3:List ac}
theorem vH {h:Heap} {a:Addr} {vs:Array Value} (pl:h.PlainList a vs):∃ ob,h.get? a = some ob /\ ob.cls = .type "list" /\ ob.dict = none:=by obtain ⟨j,e⟩:=pl;exact ⟨_,e,rfl,rfl⟩
theorem fq (hW:Wok W T) {ob e:Expr} {apos pos:Pos} {i:Nat} {ds ds0:List D} {d:D} (ho:EVM W T n env μ Θ (eval ob env) (.ref i) μ' Θ') (he:EVM W T n env μ' Θ' (eval e env) d μ'' Θ'') (hi0:Θ'[i]? = some (.mlist ds0)) (hi:Θ''[i]? = some (.mlist ds)) (hl:ds.length <= 10000)
  (hb:autoParam (attributeBase ob "append" env (eval ob env) = eval ob env) rfT) (hs:autoParam (starEach [e] env = [(false,eval e env)]) rfT) (hline:autoParam ((apos.endLine == pos.line) = true) rfT) :
  EVM W T n env μ Θ (eval (.Call (.Attribute ob "append" apos) [e] [] pos) env) .none μ'' (Θ''.set i (.mlist (ds ++ [d]))):=by
 refine .of ?_;intro A s vm O M0 r t R Q E q;refine fM (id := "list.append") hb (by rw [hs];rfl) hline (by rw [hs];rfl) (ho.run A s vm O M0 r t R _ _ fun v h1a tA vm1 O1 lA R1 xA dA=>?_)
 induction dA using rE with
 | ref ha=>
 rename_i a;obtain ⟨vs0,pl0,_⟩:=R1.obs i a _ ha hi0;obtain ⟨ob,e1,e2,e3⟩:=vH pl0;refine Calls.getMethod_list_append (s:={ s with heap:=h1a,toks:=tA }) e1 e2 e3 ⟨rfl,?_⟩
 refine (dg he eV (by rw [hs];rfl)).run A _ vm1 O1 M0 pos r (Nat.le_trans t lA) R1 _ _ fun vs hJ tJ vm2 O2 lB R2 x2 dB=>?_
 induction dB using kE with
 | cons dk dn=>
 induction dn using qE;have haB:=x2.ext.pre _ _ ha;obtain ⟨ws,pl2,dlB⟩:=R2.obs i a _ haB hi;refine wpAny_list_append_plain (s:={ s with heap:=hJ,toks:=tJ }) pl2 (fun h3a pl3 sb=>?_) (by rw [List.size_toArray,dlB.length,sizeLine_eq];omega)
 obtain ⟨R3,xC⟩:=R2.toRpH.mlist hW haB hi sb (by simpa using pl3) (dlB.append (.cons dk .nil))
 exact q _ h3a tJ vm2 O2 (Nat.le_trans lA lB) (R2.called R3 xC) ((xA.trans x2 R.len).trans xC.wide R.len) .none
theorem ot {h:Heap} {O:List Addr} {M:Addr->Prop} {d:D} {ds:List D} {vs:List Value} (x:am h O M vs (ds ++ [d])):∃ ws v,vs = ws ++ [v] /\ am h O M ws ds /\ Den h O M v d:=by
 induction ds generalizing vs with
 | nil=>
  replace x:am h O M vs (d :: []):=x
  induction x using kE with
  | cons x y=>induction y using qE;exact ⟨[],_,rfl,.nil,x⟩
 | cons a ds ih=>
  replace x:am h O M vs (a :: (ds ++ [d])):=x
  induction x using kE with
  | cons x y=>
   obtain ⟨ws,v,rfl,h1,h2⟩:=ih y;exact ⟨_ :: ws,v,rfl,.cons x h1,h2⟩
theorem uc (hW:Wok W T) {ob:Expr} {apos pos:Pos} {i:Nat} {ds:List D} (ho:EVM W T n env μ Θ (eval ob env) (.ref i) μ' Θ') (hi:Θ'[i]? = some (.mlist ds)) (hl:ds.length <= 10000)
  (hb:autoParam (attributeBase ob "clear" env (eval ob env) = eval ob env) rfT) (hline:autoParam ((apos.endLine == pos.line) = true) rfT) :
  EVM W T n env μ Θ (eval (.Call (.Attribute ob "clear" apos) [] [] pos) env) .none μ' (Θ'.set i (.mlist [])):=by
 refine .of ?_;intro A s vm O M0 r t R Q E q;refine fM (id := "list.clear") hb rfl hline rfl (ho.run A s vm O M0 r t R _ _ fun v h1a tA vm1 O1 lA R1 xA dA=>?_)
 induction dA using rE with
 | ref ha=>
 rename_i a;obtain ⟨vs,⟨j,pl⟩,dl⟩:=R1.obs i a _ ha hi;have hT:({ s with heap:=h1a,toks:=tA }:Shared).TypeIs (.ref a) "list":=⟨_,pl,rfl⟩
 refine getMethod_builtin (s:={ s with heap:=h1a,toks:=tA }) hT PySem.F.plainAttrs_list PySem.F.slot_list_clear PySem.F.type_list_clear (fun b e=>by cases e;exact ⟨_,pl,rfl⟩) ⟨rfl,?_⟩
 refine spliced_none ?_
 refine call_meets (s:={ s with heap:=h1a,toks:=tA }) PySem.F.slot_list_clear hT PySem.F.entry_list_clear (PySem.F.args_list_clear_1 _) (PySem.AutoSeq1.list_clear_list_0 a vs.toArray j (by rw [List.size_toArray,dl.length,sizeLine_eq];omega)) ⟨pl,?_⟩
 have sb:Heap.SameBut a h1a (h1a.update a (Obj.mapSeq fun _=>#[])):=Heap.SameBut.update _ _ _
 have pl':(h1a.update a (Obj.mapSeq fun _=>#[])).PlainList a ([]:List Value).toArray:=by
  have key:∃ k,Obj.mapSeq (fun _=>#[]) { cls:=.type "list",data:=.seq vs.toArray j } = { cls:=.type "list",data:=.seq ([]:List Value).toArray k }:=⟨_,rfl⟩
  obtain ⟨k,key⟩:=key;exact ⟨k,by rw [Heap.get?_update_self _ pl (by rw [key];rfl),key]⟩
 obtain ⟨R3,xC⟩:=R1.toRpH.mlist hW ha hi sb pl' .nil;exact q _ _ tA vm1 O1 lA (R1.called R3 xC) (xA.trans xC.wide R.len) .none
end
section
open Builtin Builtin.ObjectAttr
variable {Θ3:List ac}
theorem nox {α:ac} (h:α ≠ .gone:=by intro q;cases q):α ≠ .gone:=h
theorem vc (hW:Wok W T) {ob e:Expr} {apos pos:Pos} {i:Nat} {k:Str} {ks:List Str} (ho:EVM W T n env μ Θ (eval ob env) (.ref i) μ Θ) (he:EVM W T n env μ Θ (eval e env) (.str k) μ Θ) (hi:Θ[i]? = some (.mset ks)) (hl:ks.length <= 1000)
  (hb:autoParam (attributeBase ob "add" env (eval ob env) = eval ob env) rfT) (hs:autoParam (starEach [e] env = [(false,eval e env)]) rfT) (hline:autoParam ((apos.endLine == pos.line) = true) rfT) :
  EVM W T n env μ Θ (eval (.Call (.Attribute ob "add" apos) [e] [] pos) env) .none μ (Θ.set i (.mset (ks ++ [k]))):=by
 refine .of ?_;intro A s vm O M0 r t R Q E q;refine fM (id := "set.add") hb (by rw [hs];rfl) hline (by rw [hs];rfl) (ho.run A s vm O M0 r t R _ _ fun v h1a tA vm1 O1 lA R1 xA dA=>?_)
 induction dA using rE with
 | ref ha=>
 rename_i a;obtain ⟨nA,_,SA⟩:=R1.obs i a _ ha hi;refine getMethod_set_add (s:={ s with heap:=h1a,toks:=tA }) SA ⟨rfl,?_⟩
 refine (dg he eV (by rw [hs];rfl)).run A _ vm1 O1 M0 pos r (Nat.le_trans t lA) R1 _ _ fun vs hJ tJ vm2 O2 lB R2 x2 dB=>?_
 induction dB using kE with
 | cons dk dn=>
 induction dn using qE
 induction dk using sE with
 | str tk=>
 have haB:=x2.ext.pre _ _ ha;obtain ⟨nB,hn2,S2⟩:=R2.obs i a _ haB hi;have hsc:2000 < scanBound:=by decide
 refine call_set_add (s:={ s with heap:=hJ,toks:=tJ }) (ji k tk) rfl S2 (by omega) fun h3a sb S3=>?_
 have S3':h3a.SetOf (strKind W.prog W.w) a (fun k'=>decide (k' ∈ ks ++ [k])) (if decide (k ∈ ks) = true then nB else nB + 1):=by
  have e:(fun k'=>decide (k' ∈ ks) || decide (k' = k)) = (fun k'=>decide (k' ∈ ks ++ [k])):=by
   funext k'
   by_cases h1:k' ∈ ks <;> by_cases h2:k' = k <;> simp [h1,h2]
  rw [<- e];exact S3
 obtain ⟨R3,xC⟩:=R2.toRpH.upd hW (ob':=.mset (ks ++ [k])) haB hi nox nox sb ⟨_,by
  rw [length_append,length_singleton];split <;> omega,S3'⟩
 exact q _ h3a (tJ + 1) vm2 O2 (Nat.le_trans lA (Nat.le_trans lB (le_succ _))) (R2.called R3 xC) ((xA.trans x2 R.len).trans xC.wide R.len) .none
theorem ue (hW:Wok W T) {l r:Expr} {pos:Pos} {i:Nat} {k:Str} {ks:List Str} (hl:EVM W T n env μ Θ (eval l env) (.str k) μ Θ) (hr:EVM W T n env μ Θ (eval r env) (.ref i) μ Θ) (hi:Θ[i]? = some (.mset ks)) (hm:autoParam (behindInMarks .In r = false) wuT) :
  TSM W T n env μ Θ (.Compare l [.In] [r] pos) (decide (k ∈ ks)) μ Θ:=by
 refine .of ?_;intro A s vm O M0 rm t R Q E q;refine wpAny_isTrue_Compare1 (hl.run A s vm O M0 rm t R _ _ fun x h1a tA vm1 O1 lA R1 xA dA=>?_) hm
 refine hr.run A _ vm1 O1 M0 rm (Nat.le_trans t lA) R1 _ _ fun y hJ tJ vm2 O2 lB R2 x2 dB=>?_
 induction dA using sE with
 | str tk=>
 induction dB using rE with
 | ref ha=>
 rename_i a;obtain ⟨nB,hn2,S2⟩:=R2.obs i a _ ha hi;refine wpAny_inSet_of (s:={ s with heap:=hJ,toks:=tJ }) (ji k tk) rfl S2 (wpAny_truthy_bool ?_)
 exact q hJ (tJ + 1) vm2 O2 (Nat.le_trans lA (Nat.le_trans lB (le_succ _))) R2 (xA.trans x2 R.len)
theorem sW (hW:Wok W T) {l r:Expr} {pos:Pos} {i:Nat} {k:Str} {kvs:List (Str × D)} {ep:Option Nat} (hl:EVM W T n env μ Θ (eval l env) (.str k) μ Θ) (hr:EVM W T n env μ Θ (eval r env) (.ref i) μ Θ) (hi:Θ[i]? = some (.mdict kvs ep)) (hm:autoParam (behindInMarks .In r = false) wuT) :
  TSM W T n env μ Θ (.Compare l [.In] [r] pos) (kvs.lookup k).isSome μ Θ:=by
 refine .of ?_;intro A s vm O M0 rm t R Q E q;refine wpAny_isTrue_Compare1 (hl.run A s vm O M0 rm t R _ _ fun x h1a tA vm1 O1 lA R1 xA dA=>?_) hm
 refine hr.run A _ vm1 O1 M0 rm (Nat.le_trans t lA) R1 _ _ fun y hJ tJ vm2 O2 lB R2 x2 dB=>?_
 induction dA using sE with
 | str tk=>
 induction dB using rE with
 | ref ha=>
 rename_i a;obtain ⟨vk,eJ,D2,_,dl⟩:=R2.obs i a _ ha hi;have z:=dl.look k;have e:(valueAt vk k).isSome = (kvs.lookup k).isSome:=by
  cases y:kvs.lookup k with
  | none=>rw [y] at z;rw [cP z];rfl
  | some d=>rw [y] at z;cases w:valueAt vk k with
   | none=>rw [w] at z;cases z
   | some _=>rfl
 refine wpAny_in_of (s:={ s with heap:=hJ,toks:=tJ }) (ji k tk) (R2.toRpH.sys hW ha) D2.dictOf.mapOf (wpAny_truthy_bool ?_)
 rw [e];exact q hJ (tJ + 1) vm2 O2 (Nat.le_trans lA (Nat.le_trans lB (le_succ _))) R2 (xA.trans x2 R.len)
noncomputable def jP (kvs:List (Str × D)) (k:Str):List (Str × D):=kvs.filter fun p=>decide (p.1 ≠ k)
theorem bY.del {h:Heap} {O:List Addr} {M:Addr->Prop} {vk:List (Str × Value)} {kvs:List (Str × D)} (x:bY h O M vk kvs) (k:Str):bY h O M (without vk k) (jP kvs k):=by
 unfold without jP
 induction x with
 | nil=>exact .nil
 | cons y _ ih=>
  rename_i k' v vs d ds _;by_cases hk:k' = k
  ·simp only [filter_cons,hk,ne_eq,not_true_eq_false,decide_false,Bool.false_eq_true,if_false];exact ih
  ·simp only [filter_cons,ne_eq,hk,not_false_eq_true,decide_true,if_true];exact .cons y ih
theorem ja (hW:Wok W T) {x:Str} {px pos:Pos} {e:Expr} {d:D} (he:EVM W T n env μ Θ (eval e env) d μ' Θ') (hk:Sto env x = true):EVM W T n env μ Θ (eval (.NamedExpr (.Name x px) e pos) env) d (upd μ' x d) Θ':=by
 refine .of ?_;intro A s vm O M0 r t R Q E q;refine wpAny_NamedExpr (he.run A s vm O M0 r t R _ _ fun v h1a tA vm1 O1 lA R1 xA dv=>?_)
 refine wpAny_assign_Name (bV R1.fm hk fun b h' tk lB fs sb F'=>?_)
 have fb:Fx env b:=fs.elim (fun q=>.inl q.2) fun q=>.inr ⟨x,q.2⟩
 obtain ⟨R2,x2⟩:=R1.stored hW fb sb F' dv;exact q v h' tk _ O1 (Nat.le_trans lA lB) R2 (xA.trans x2 R.len) (dv.nx R1 x2)
theorem uu (hW:Wok W T) {ob e val:Expr} {x:Str} {spos px pos:Pos} {i:Nat} {k:Str} {d:D} {kvs:List (Str × D)} {ep:Option Nat} (hv:EVM W T n env μ Θ (eval val env) d μ' Θ') (ho:EVM W T n env μ' Θ' (eval ob env) (.ref i) μ' Θ') (he:EVM W T n env μ' Θ' (eval e env) (.str k) μ' Θ') (hi:Θ'[i]? = some (.mdict kvs ep)) (hk:kvs.lookup k = none) (hsz:kvs.length <= 1000) (hx:Sto env x = true)
  (hae:autoParam ((assignEach [.Subscript ob e spos,.Name x px] env).map (·.2) = [assign (.Subscript ob e spos) env,assign (.Name x px) env]) rfT) (hw:autoParam (swappedStores [.Subscript ob e spos,.Name x px] val env = pure none) rfT) :
  EX W T n env μ Θ (exec (.Assign [.Subscript ob e spos,.Name x px] val pos) env) (.nxt (upd μ' x d) (Θ'.set i (.mdict (kvs ++ [(k,d)]) none))):=by
 refine .of ?_;intro A s vm O M0 r t R Q E q;refine wpAny_Assign_two (hv.run A s vm O M0 r t R _ _ fun v h1a tA vm1 O1 lA R1 xA dA=>?_) hae hw
 rw [arm_assign_Subscript];refine wpAny_bind (wpAny_holding (ho.run A _ vm1 O1 M0 r (Nat.le_trans t lA) R1 _ _ fun w hJ tJ vm2 O2 lB R2 x2 dB=>?_))
 refine wpAny_bind (wpAny_holding (he.run A _ vm2 O2 M0 r (Nat.le_trans t (Nat.le_trans lA lB)) R2 _ _ fun w h3a tC vm3 O3 l3 R3 xC d3=>?_))
 induction dB using rE with
 | ref ha=>
 induction d3 using sE with
 | str tk=>
 refine wpAny_bind (wpAny_standAt (wpAny_bind (wpAny_holding ?_)))
 have dv3:=(dA.nx R1 x2).nx R2 xC;refine ru (s:={ s with heap:=h3a,toks:=tC }) hW R3.toRpH (xC.ext.pre _ _ ha) hi hk hsz dv3 fun h4a tD lD R4 xD=>?_
 refine wpAny_release ?_
 have R4':=R3.called R4 xD;refine wpAny_assign_Name (bV R4'.fm hx fun b h' tk' l5 fs sb F'=>?_)
 have fb:Fx env b:=fs.elim (fun q=>.inl q.2) fun q=>.inr ⟨x,q.2⟩
 obtain ⟨R5,x5⟩:=R4'.stored hW fb sb F' (dv3.nx R3 xD.wide);exact q _ h' tk' (Nat.le_trans lA (Nat.le_trans lB (Nat.le_trans l3 (Nat.le_trans lD l5)))) ⟨rfl,_,O3,R5,((((xA.trans x2 R.len).trans xC R.len).trans xD.wide R.len).trans x5 R.len)⟩
end
section
open Builtin Builtin.ObjectAttr
variable {Θ3:List ac}
structure NXT (W:Wd) (T:Heap->Prop) (i:Nat) (Θ:List ac) (r:Option D) (Θ':List ac):Prop where
 of ::
 run:∀ (A:Around) (s:Shared) (O:List Addr) (M0:Addr->Prop) (a:Addr),A.handled = none->RpH W T M0 Θ s.heap O->O[i]? = some a->
  ∀ (Q:Option Value->Shared->Prop) (E:Value->Shared->Prop),(∀ v h' tk O',s.toks <= tk->RpH W T M0 Θ' h' O'->Nx W Nox s.heap O Θ h' O' Θ'->fj h' O' (Mx M0 O' Θ') v r->Q v { s with heap:=h',toks:=tk })->wpAny (model W.prog W.w) A (pyNext (.ref a)) Q E s
noncomputable def Out.goes:Out->Option ((Str->Option D) × List ac)
 | .nxt μ Θ=>some (μ,Θ)
 | .cont μ Θ=>some (μ,Θ)
 | _=>none
noncomputable def Out.isRet:Out->Bool
 | .ret ..=>true
 | _=>false
inductive LTG (W:Wd) (T:Heap->Prop) (n:Nat) (env:Env) (tgt:Expr) (i:Nat) (B:(Str->Option D)->List ac->Out->Prop):Nat->(Str->Option D)->List ac->Out->Prop where
 | done {k:Nat} {μ:Str->Option D} {Θ Θ':List ac}:NXT W T i Θ none Θ'->LTG W T n env tgt i B k μ Θ (.nxt μ Θ')
 | go {k:Nat} {d:D} {μ μ1:Str->Option D} {Θ Θ1:List ac} {ob o:Out}:NXT W T i Θ (some d) Θ1->ASG W T n env tgt d μ μ1->B μ1 Θ1 ob->(∀ μ2 Θ2,ob.goes = some (μ2,Θ2)->LTG W T n env tgt i B k μ2 Θ2 o)->(ob.goes = none->ob.isRet = true /\ o = ob)->LTG W T n env tgt i B (k + 1) μ Θ o
noncomputable abbrev LT (W:Wd) (T:Heap->Prop) (n:Nat) (env:Env) (tgt:Expr) (body:List Stmt) (i:Nat):Nat->(Str->Option D)->List ac->Out->Prop:=LTG W T n env tgt i fun μ Θ o=>EX W T n env μ Θ (execs body env) o
variable {B:(Str->Option D)->List ac->Out->Prop} {e:D} {μ2:Str->Option D} {Θ1 Θ2:List ac}
theorem LTG.turn (a:NXT W T i Θ (some d) Θ1) (b:ASG W T n env tgt d μ μ1) (c:B μ1 Θ1 (.nxt μ2 Θ2)) (h:LTG W T n env tgt i B k μ2 Θ2 o):LTG W T n env tgt i B (k + 1) μ Θ o:=.go a b c (fun _ _ e=>by cases e;exact h) fun e=>nomatch e
theorem LTG.cont (a:NXT W T i Θ (some d) Θ1) (b:ASG W T n env tgt d μ μ1) (c:B μ1 Θ1 (.cont μ2 Θ2)) (h:LTG W T n env tgt i B k μ2 Θ2 o):LTG W T n env tgt i B (k + 1) μ Θ o:=.go a b c (fun _ _ e=>by cases e;exact h) fun e=>nomatch e
theorem LTG.ret (a:NXT W T i Θ (some d) Θ1) (b:ASG W T n env tgt d μ μ1) (c:B μ1 Θ1 (.ret e Θ2)):LTG W T n env tgt i B (k + 1) μ Θ (.ret e Θ2):=.go a b c (fun _ _ e=>nomatch e) fun _=>⟨rfl,rfl⟩
structure MKI (W:Wd) (T:Heap->Prop) (d:D) (Θ:List ac) (i:Nat) (Θ':List ac):Prop where
 of ::
 run:∀ (A:Around) (s:Shared) (O:List Addr) (M0:Addr->Prop) (v:Value),A.handled = none->RpH W T M0 Θ s.heap O->Den s.heap O (Mx M0 O Θ) v d->
  ∀ (Q E:Value->Shared->Prop),(∀ v h' tk O',s.toks <= tk->RpH W T M0 Θ' h' O'->Nx W Nox s.heap O Θ h' O' Θ'->Den h' O' (Mx M0 O' Θ') v (.ref i)->Q v { s with heap:=h',toks:=tk })->wpAny (model W.prog W.w) A (pyIter v) Q E s
theorem og {A:Around} {M0:Addr->Prop} {K:List Addr->Prop} {h0a:Heap} {O0:List Addr} {Θ0:List ac} {a:Addr} {tgt:Expr} {body:List Stmt} {i k:Nat} {R':Result->Shared->Prop} {B:(Str->Option D)->List ac->Out->Prop} (r:aL n A) (ht:b8 tgt) (hK:∀ O O',(∀ (i:Nat) (a:Addr),O[i]? = some a->O'[i]? = some a)->K O->K O')
  (hB:∀ μ Θ o,B μ Θ o->∀ (s:Shared) (vm:Str->Option Value) (O:List Addr),K O->0 <= s.toks->Rp W T env M0 μ Θ s.heap vm O->∀ (Q:Flow->Shared->Prop) (E:Value->Shared->Prop),(∀ f h' tk,s.toks <= tk->ju W T env M0 s.heap O Θ o f h'->Q f { s with heap:=h',toks:=tk })->wpAny (model W.prog W.w) A (execs body env) Q E s)
  (lO:O0.length = Θ0.length) (hl:LTG W T n env tgt i B k μ Θ o) {s:Shared} {vm:Str->Option Value} {O:List Addr} (t:0 <= s.toks) (kn:K O) (ha:O[i]? = some a) (R:Rp W T env M0 μ Θ s.heap vm O) (x:Nx W (Fx env) h0a O0 Θ0 s.heap O Θ)
  (q:∀ f h' tk,s.toks <= tk->ju W T env M0 h0a O0 Θ0 o f h'->R' (.ok f) { s with heap:=h',toks:=tk }):codeAny (model W.prog W.w) A (.forLoop tgt (.ref a) body [] env) R' s:=by
 induction hl generalizing s vm O with
 | done hn=>
  refine jp (hn.run A _ O M0 a r.handled R.toRpH ha _ _ fun v h3a tC O3 l3 R3 xC d3=>?_)
  cases d3;exact q _ h3a tC l3 ⟨rfl,vm,O3,R.called R3 xC,x.trans xC.wide lO⟩
 | @go k d μ μ1 Θ Θ1 ob o hn hg hb hr hx ih=>
  refine jp (hn.run A _ O M0 a r.handled R.toRpH ha _ _ fun v h3a tC O3 l3 R3 xC d3=>?_)
  cases d3 with
  | some dv=>
  refine wpAny_of_eq (lc ht _ _) ?_
  refine (R.called R3 xC).asg hg r (Nat.le_trans t l3) dv fun vm4 h4a tD lD R4 xD=>?_
  have x34:=x.trans (xC.wide.trans xD R.len) lO;have l34:=Nat.le_trans l3 lD;refine hB _ _ _ hb _ vm4 O3 (hK _ _ xC.ext.pre kn) (Nat.le_trans t l34) R4 _ _ fun f h5a t5 l5 p=>?_
  have l35:=Nat.le_trans l34 l5;have fin:∀ {μ2:Str->Option D} {Θ2:List ac} {vm':Str->Option Value} {O':List Addr},_ = some (μ2,Θ2)->Rp W T env M0 μ2 Θ2 h5a vm' O'->Nx W (Fx env) h4a O3 _ h5a O' Θ2->codeAny (model W.prog W.w) A (.forLoop tgt (.ref a) body [] env) R' { s with heap:=h5a,toks:=t5 }:=fun g R5 x5=>
   ih _ _ g (s:={ s with heap:=h5a,toks:=t5 }) (Nat.le_trans t l35) (hK _ _ x5.ext.pre (hK _ _ xC.ext.pre kn)) (x5.ext.pre _ _ (xC.ext.pre _ _ ha)) R5 (x34.trans x5 lO) fun f h' tk l p=>q f h' tk (Nat.le_trans l35 l) p
  cases ob with
  | nxt=>obtain ⟨rfl,vm5,O5,R5,x5⟩:=p;exact fin rfl R5 x5
  | cont=>obtain ⟨rfl,vm5,O5,R5,x5⟩:=p;exact fin rfl R5 x5
  | brk=>exact Bool.noConfusion (hx rfl).1
  | ret=>
   obtain ⟨v,O5,rfl,R5,dv,x5⟩:=p;exact q (.ret v) h5a t5 l35 ((hx rfl).2 ▸ ⟨v,O5,rfl,R5,dv,x34.trans x5 lO⟩)
theorem xz (hW:Wok W T) {tgt iter:Expr} {body:List Stmt} {pos:Pos} {d:D} {i k:Nat} (he:EVM W T n env μ Θ (eval iter env) d μ' Θ') (hm:MKI W T d Θ' i Θ'') (hl:LT W T n env tgt body i k μ' Θ'' o) (ht:b8 tgt) (hs:autoParam (∀ x,foldedSetIterable iter env x = pure x) r1T) :
  EX W T n env μ Θ (exec (.For tgt iter body [] pos) env) o:=by
 refine .of ?_;intro A s vm O M0 r t R Q E q;refine wpAny_For (he.run A s vm O M0 r t R _ _ fun v h1a tA vm1 O1 lA R1 xA dA=>?_) hs
 refine hm.run A { s with heap:=h1a,toks:=tA } O1 M0 v r.handled R1.toRpH dA _ _ fun v hJ tJ O2 lB R2 x2 dB=>?_
 induction dB using rE with
 | ref ha=>
 have l12:=Nat.le_trans lA lB;exact og (K:=fun _=>True) r ht (fun _ _ _ k=>k) (fun _ _ _ hb s vm O _ t R Q E q=>hb.run A s vm O M0 r t R Q E q) R.len hl (Nat.le_trans t l12) trivial ha (R1.called R2 x2) (xA.trans (x2.wide (X:=Fx env)) R.len) fun f h' tk l p=>q f h' tk (Nat.le_trans l12 l) p
end
section
open Builtin Builtin.ObjectAttr
variable {Θ3:List ac}
theorem kl {e:Expr} {ds:List D} (h:EVF W T n env μ e ds):EVM W T n env μ Θ (eval e env) (.ref Θ.length) μ (Θ ++ [.mlist ds]):=by
 refine .of ?_;intro A s vm O M0 r t R Q E q;refine h.run A s vm O _ r (R.toRpH.ok t) R.fm R.vars Q E fun a vs h' tk le st hn hb pl dl=>?_
 obtain ⟨R',x'⟩:=R.toRpH.new (ob:=.mlist ds) st hn hb (by obtain ⟨j,e⟩:=pl;rw [e];rfl) ⟨vs,pl,dl.kseq (.refl _) (fun _ _ e=>dt e) fun _ m _=>m⟩
 exact q _ h' tk vm _ le (R.called R' x') x'.wide (.ref (by rw [<- R.len];simp))
theorem k8 (hW:Wok W T) {pos:Pos}:EVM W T n env μ Θ (eval (.Dict [] [] pos) env) (.ref Θ.length) μ (Θ ++ [.mdict [] none]):=by
 refine .of ?_;intro A s vm O M0 r t R Q E q;refine wpAny_Dict_empty ?_
 have st:Stp W T s.heap (s.heap.push { cls:=.type "dict",data:=.dict #[] }):=.of hW R.gd fun a o e=>Heap.get?_push_of_some _ e
 obtain ⟨eZ,D0⟩:=(Heap.DictOf.new (knd:=strKind W.prog W.w) s.heap).dictAt;obtain ⟨R',x'⟩:=R.toRpH.new (a:=s.heap.objs.size) (ob:=.mdict [] none) st az R.gd.size (by rw [Heap.get?_push_size _ rfl];rfl) ⟨[],eZ,D0,(fun _ q=>by cases q),.nil⟩
 exact q _ _ s.toks vm _ (Nat.le_refl _) (R.called R' x') x'.wide (.ref (by rw [<- R.len];simp))
theorem sU (hW:Wok W T) {np pos:Pos} (hx:Glb W env "set" (.type "set")):EVM W T n env μ Θ (eval (.Call (.Name "set" np) [] [] pos) env) (.ref Θ.length) μ (Θ ++ [.mset []]):=by
 refine .of ?_;intro A s vm O M0 r t R Q E q;refine Call_Name rfl (bT hW R.gd R.fm hx ?_)
 refine aO rfl rfl (iM (spliced_none ?_) rfl)
 refine call_set_0 fun led=>?_
 have st:Stp W T s.heap (s.heap.push { cls:=.type "set",dict:=none,data:=.set #[] 0 (.fresh 0 0 led) }):=.of hW R.gd fun a o e=>Heap.get?_push_of_some _ e
 have SO:(s.heap.push { cls:=.type "set",dict:=none,data:=.set #[] 0 (.fresh 0 0 led) }).SetOf (strKind W.prog W.w) s.heap.objs.size (fun k=>decide (k ∈ ([]:List Str))) 0:=by
  have:=(setObjOf_fresh (knd:=strKind W.prog W.w) led).setOf (h:=s.heap.push { cls:=.type "set",dict:=none,data:=.set #[] 0 (.fresh 0 0 led) }) (Heap.get?_push_size _ rfl) (by decide)
  simpa using this
 obtain ⟨R',x'⟩:=R.toRpH.new (a:=s.heap.objs.size) (ob:=.mset []) st az R.gd.size (by rw [Heap.get?_push_size _ rfl];rfl) ⟨0,zero_le _,SO⟩
 exact q _ _ s.toks vm _ (Nat.le_refl _) (R.called R' x') x'.wide (.ref (by rw [<- R.len];simp))
theorem lg (hW:Wok W T) {ob e:Expr} {name:Str} {apos pos:Pos} {op:Operator} {i j k:Nat} {C p:Addr} {ss:List (Option D)} {m:List (Str × D)} {a b c:Int} (F:cT W.K C false) (S:fn W.K C name p k) (ho:EVM W T n env μ Θ (eval ob env) (.ref i) μ Θ) (he:EVM W T n env μ Θ (eval e env) (.int b) μ Θ)
  (hi:Θ[i]? = some (.minst C j ss)) (hj:Θ[j]? = some (.mns m)) (hk:k < 1000) (ha:ss[k]? = some (some (.int a))) (hop:(op = .Add /\ c = a + b) \/ (op = .Sub /\ c = a - b)) :
  EX W T n env μ Θ (exec (.AugAssign (.Attribute ob name apos) op e pos) env) (.nxt μ (Θ.set i (.minst C j (fW ss k (.int c))))):=by
 refine .of ?_;intro A s vm O M0 r t R Q E q;refine wpAny_AugAssign_AttributeAny (ho.run A s vm O M0 r t R _ _ fun v h1a tA vm1 O1 lA R1 xA dA=>?_)
 induction dA using rE with
 | ref hai=>
 rename_i ad;refine cD R1.toRpH hai hi hj fun dx vs od vk e1 ej e2 I hn hv hl dl=>?_
 obtain ⟨v,ev,dv⟩:=dl.get ha;refine get_bind (s:={ s with heap:=h1a,toks:=tA }) R1.gd.k I F.ga (S.find _) F.gk (wpAny_call (slot_get R1.gd.k I S.slot (v:=v) (by
  show ((vs.toArray)[k]?).join = some v;simp [ev]) ?_))
 show wpAny _ _ (handedOut v) _ _ _;rw [handedOut_of dv.handed];refine wpAny_pure ?_
 have t':0 <= tA + 1:=zero_le _;refine he.run A _ vm1 O1 M0 r t' R1 _ _ fun w hJ tJ vm2 O2 lB R2 x2 dB=>?_
 induction dv using iE with
 | int u=>
 induction dB using iE with
 | int u'=>
 have hai2:=x2.ext.pre _ _ hai;have fin:wpAny (model W.prog W.w) A (setAttr (.ref ad) name (.int c tJ)) (fun _=>Q .next) E { s with heap:=hJ,toks:=tJ + 1 }:=by
  refine lZ (s:={ s with heap:=hJ,toks:=tJ + 1 }) hW F S R2.toRpH hai2 hi hj hk (.int c tJ) fun h3a tC l3 R3 xC=>?_
  exact q _ h3a tC (Nat.le_trans lA (Nat.le_trans (le_succ _) (Nat.le_trans lB (Nat.le_trans (le_succ _) l3)))) ⟨rfl,vm2,O2,R2.called R3 xC,(xA.trans x2 R.len).trans xC.wide R.len⟩
 rcases hop with ⟨rfl,rfl⟩ | ⟨rfl,rfl⟩
 ·exact PyProof.Rows.iadd_int (s:={ s with heap:=hJ,toks:=tJ }) fin
 ·exact PyProof.Rows.isub_int (s:={ s with heap:=hJ,toks:=tJ }) fin
theorem k7 (hW:Wok W T) {ob e:Expr} {name:Str} {apos pos:Pos} {op:Operator} {i j:Nat} {C:Addr} {ss:List (Option D)} {m:List (Str × D)} {a b c:Int} (F:cT W.K C true) (ho:EVM W T n env μ Θ (eval ob env) (.ref i) μ Θ) (he:EVM W T n env μ Θ (eval e env) (.int b) μ Θ)
  (hi:Θ[i]? = some (.minst C j ss)) (hj:Θ[j]? = some (.mns m)) (hm:m.lookup name = some (.int a)) (hf:findIn W.K (.ref C) name = some none) (ht:takerIn W.K C name = some none) (hsz:m.length <= 100) (hop:(op = .Add /\ c = a + b) \/ (op = .Sub /\ c = a - b)) :
  EX W T n env μ Θ (exec (.AugAssign (.Attribute ob name apos) op e pos) env) (.nxt μ (Θ.set j (.mns (d5 m name (.int c))))):=by
 refine .of ?_;intro A s vm O M0 r t R Q E q;refine wpAny_AugAssign_AttributeAny (ho.run A s vm O M0 r t R _ _ fun v h1a tA vm1 O1 lA R1 xA dA=>?_)
 induction dA using rE with
 | ref hai=>
 rename_i ad;refine cD R1.toRpH hai hi hj fun dx vs od vk e1 ej e2 I hn hv hl dl=>?_
 have z:=hv name;rw [hm] at z
 cases y:vk name with
 | none=>rw [y] at z;cases z
 | some v=>
 rw [y] at z
 cases z with
 | some dv=>
 refine get_value (s:={ s with heap:=h1a,toks:=tA }) R1.gd.k I F.ga (pM F hf (by rw [hl,y])) dv.handed ?_
 have t':0 <= tA + 1:=zero_le _;refine he.run A _ vm1 O1 M0 r t' R1 _ _ fun w hJ tJ vm2 O2 lB R2 x2 dB=>?_
 induction dv using iE with
 | int u=>
 induction dB using iE with
 | int u'=>
 have hai2:=x2.ext.pre _ _ hai;have fin:wpAny (model W.prog W.w) A (setAttr (.ref ad) name (.int c tJ)) (fun _=>Q .next) E { s with heap:=hJ,toks:=tJ + 1 }:=by
  refine mj (s:={ s with heap:=hJ,toks:=tJ + 1 }) hW F R2.toRpH hai2 hi hj ht hsz (.int c tJ) fun h3a tC l3 R3 xC=>?_
  exact q _ h3a tC (Nat.le_trans lA (Nat.le_trans (le_succ _) (Nat.le_trans lB (Nat.le_trans (le_succ _) l3)))) ⟨rfl,vm2,O2,R2.called R3 xC,(xA.trans x2 R.len).trans xC.wide R.len⟩
 rcases hop with ⟨rfl,rfl⟩ | ⟨rfl,rfl⟩
 ·exact PyProof.Rows.iadd_int (s:={ s with heap:=hJ,toks:=tJ }) fin
 ·exact PyProof.Rows.isub_int (s:={ s with heap:=hJ,toks:=tJ }) fin
end
theorem gA (Θ L:List ac) (c:Nat):(Θ ++ L)[Θ.length + c]? = L[c]?:=by simp [getElem?_append_right]
theorem sA (Θ L:List ac) (c:Nat) (x:ac):(Θ ++ L).set (Θ.length + c) x = Θ ++ L.set c x:=by
 rw [set_append_right _ _ (by omega)];simp
theorem dq (hK:W.K = hd.heap_39 P):cT W.K 82 false:=by
 rw [hK];exact ⟨by with_unfolding_all rfl,by with_unfolding_all rfl,by with_unfolding_all rfl,by with_unfolding_all rfl,by with_unfolding_all rfl⟩
theorem bh (hK:W.K = hd.heap_39 P):cT W.K 179 true:=by
 rw [hK];exact ⟨by with_unfolding_all rfl,by with_unfolding_all rfl,by with_unfolding_all rfl,by with_unfolding_all rfl,by with_unfolding_all rfl⟩
theorem pT (hK:W.K = hd.heap_39 P):fn W.K 82 "node" 83 0:=by
 rw [hK];exact ⟨by with_unfolding_all rfl,fun _=>by with_unfolding_all rfl,by with_unfolding_all rfl,by with_unfolding_all rfl⟩
theorem iI (hK:W.K = hd.heap_39 P):fn W.K 82 "npredecessors" 84 1:=by
 rw [hK];exact ⟨by with_unfolding_all rfl,fun _=>by with_unfolding_all rfl,by with_unfolding_all rfl,by with_unfolding_all rfl⟩
theorem lS (hK:W.K = hd.heap_39 P):fn W.K 82 "successors" 85 2:=by
 rw [hK];exact ⟨by with_unfolding_all rfl,fun _=>by with_unfolding_all rfl,by with_unfolding_all rfl,by with_unfolding_all rfl⟩
theorem yE (hK:W.K = hd.heap_39 P):MkF W.K 82 78:=by
 rw [hK];exact ⟨by with_unfolding_all rfl,by with_unfolding_all rfl,by with_unfolding_all rfl,by with_unfolding_all rfl⟩
theorem zN (hK:W.K = hd.heap_39 P):MkF W.K 179 115:=by
 rw [hK];exact ⟨by with_unfolding_all rfl,by with_unfolding_all rfl,by with_unfolding_all rfl,by with_unfolding_all rfl⟩
theorem wI (hK:W.K = hd.heap_39 P):io W.K 179 "_get_nodeinfo" 122:=by
 rw [hK];exact ⟨by with_unfolding_all rfl,by with_unfolding_all rfl,by with_unfolding_all rfl⟩
theorem EX.nxtT {c:Sem Flow} (h:EX W T n env μ Θ c (.nxt μ' Θ')) (e:Θ' = Θ''):EX W T n env μ Θ c (.nxt μ' Θ''):=e ▸ h
theorem uE (hW:Wok W T) (hK:W.K = hd.heap_39 P) (Θ:List ac) (t:Str) :
  FM W T 2 (.ref 78) [.ref (Θ.length + 1),.str t] (Θ ++ [.mns [],.minst 82 Θ.length []]) .none (Θ ++ [.mns [],.minst 82 Θ.length [some (.str t),some (.int 0),some (.ref (Θ.length + 2))],.mlist []]):=by
 refine kN hW (by rw [hK];with_unfolding_all rfl) rfl (by rw [hK];with_unfolding_all rfl) rfl rfl rfl (names:=[Str.ofString "self",Str.ofString "node"]) (df (vs2 fun _ _=>rfl)) (by decide +kernel) (by decide +kernel) (fun L=>?_)
 refine ae (EX.nxtT (eK hW (dq hK) (pT hK) (ai (aa rfl rfl)) (ai (aa rfl rfl)) (gA Θ _ 1) (gA Θ _ 0) (by decide)) (sA Θ _ 1 _)) ?_
 refine ae (EX.nxtT (eK hW (dq hK) (iI hK) (ai aq) (ai (aa rfl rfl)) (gA Θ _ 1) (gA Θ _ 0) (by decide)) (sA Θ _ 1 _)) ?_
 refine ae (eK hW (dq hK) (lS hK) (kl (cm hW ak (by decide))) (ai (aa rfl rfl)) (by rw [append_assoc];exact gA Θ _ 1) (by rw [append_assoc];exact gA Θ _ 0) (by decide)) (EX.nxtT iN ?_)
 rw [append_assoc,sA];simp [fW]
noncomputable def fw (k:Nat) (ready:D) (p f:Int):List (Str × D):=[("_node2info",.ref k),("_ready_nodes",ready),("_npassedout",.int p),("_nfinished",.int f)]
theorem vh {ex:List D} {exV:List Value} (hex:∀ h O M,am h O M exV ex) (hbind:∀ S (vals:List Value),vals.length = args.length->peek W.K S (bindArgs fd ⟨vals,[]⟩) = some (names.zip (vals ++ exV))):BND W T fd args names (args ++ ex):=
 .of fun A s O M vals k V Q E q=>kp_binds k.gd.k (fun S=>hbind S vals V.length) _ _ _ _ (q (vals ++ exV) s.heap (.refl k.gd) (V.append (hex _ _ _)))
theorem uD (hW:Wok W T) (hK:W.K = hd.heap_39 P) (Θ:List ac) :
  FM W T 2 (.ref 115) [.ref (Θ.length + 1)] (Θ ++ [.mns [],.minst 179 Θ.length []]) .none (Θ ++ [.mns (fw (Θ.length + 2) .none 0 0),.minst 179 Θ.length [],.mdict [] none]):=by
 refine kN hW (by rw [hK];with_unfolding_all rfl) rfl (by rw [hK];with_unfolding_all rfl) rfl rfl rfl (names:=[Str.ofString "self",Str.ofString "graph"]) (vh (ex:=[.none]) (exV:=[.none]) (fun _ _ _=>.cons .none .nil) fun S=>vs1 fun _=>by rw [hK];with_unfolding_all rfl) (by decide +kernel) (by decide +kernel) (fun L=>?_)
 refine ae (EX.nxtT (dN hW (bh hK) (k8 hW) (ai (aa rfl rfl)) (by rw [append_assoc];exact gA Θ _ 1) (by rw [append_assoc];exact gA Θ _ 0) (by rw [hK];with_unfolding_all rfl) (le_of_ble_eq_true rfl))
  (Θ'':=Θ ++ [.mns [("_node2info",.ref (Θ.length + 2))],.minst 179 Θ.length [],.mdict [] none]) (by rw [append_assoc,show Θ.length = Θ.length + 0 from rfl,sA];simp [d5])) ?_
 refine ae (EX.nxtT (dN hW (bh hK) (ai cH) (ai (aa rfl rfl)) (gA Θ _ 1) (gA Θ _ 0) (by rw [hK];with_unfolding_all rfl) (le_of_ble_eq_true rfl))
  (Θ'':=Θ ++ [.mns [("_node2info",.ref (Θ.length + 2)),("_ready_nodes",.none)],.minst 179 Θ.length [],.mdict [] none]) (sA Θ _ 0 _)) ?_
 refine ae (EX.nxtT (dN hW (bh hK) (ai aq) (ai (aa rfl rfl)) (gA Θ _ 1) (gA Θ _ 0) (by rw [hK];with_unfolding_all rfl) (le_of_ble_eq_true rfl))
  (Θ'':=Θ ++ [.mns [("_node2info",.ref (Θ.length + 2)),("_ready_nodes",.none),("_npassedout",.int 0)],.minst 179 Θ.length [],.mdict [] none]) (sA Θ _ 0 _)) ?_
 refine ae (EX.nxtT (dN hW (bh hK) (ai aq) (ai (aa rfl rfl)) (gA Θ _ 1) (gA Θ _ 0) (by rw [hK];with_unfolding_all rfl) (le_of_ble_eq_true rfl))
  (Θ'':=Θ ++ [.mns (fw (Θ.length + 2) .none 0 0),.minst 179 Θ.length [],.mdict [] none]) (sA Θ _ 0 _)) ?_
 exact ae (eM (cI (ai (aa rfl rfl)) (ai cH) el) (fun z=>nomatch z) (fun _=>ar)) iN
section
structure ao where
 id:Nat
 np:Int
 succ:List Nat
section
variable (tx:Nat->Str)
noncomputable def aW (k:Nat) (i:ao):List ac:=[.mns [],.minst 82 k [some (.str (tx i.id)),some (.int i.np),some (.ref (k + 2))],.mlist (i.succ.map fun j=>.str (tx j))]
noncomputable def b7:Nat->List ao->List ac
 | _,[]=>[]
 | k,i :: r=>aW tx k i ++ b7 (k + 3) r
noncomputable def aC:Nat->List ao->List (Str × D)
 | _,[]=>[]
 | k,i :: r=>(tx i.id,.ref (k + 1)) :: aC (k + 3) r
noncomputable def gO (b:Nat) (is:List ao) (ready:D) (p f:Int):List ac:=
 [.mns (fw (b + 2) ready p f),.minst 179 b [],.mdict (aC tx (b + 3) is) none] ++ b7 tx (b + 3) is
theorem oz:∀ (k:Nat) (is:List ao),(b7 tx k is).length = 3 * is.length
 | _,[]=>rfl
 | k,i :: r=>by rw [b7,length_append,oz (k + 3) r];simp [aW];omega
theorem nV:∀ (k:Nat) (is:List ao) (i:ao),b7 tx k (is ++ [i]) = b7 tx k is ++ aW tx (k + 3 * is.length) i
 | k,[],i=>by simp [b7]
 | k,x :: r,i=>by
  rw [List.cons_append,b7,nV (k + 3) r i,b7,append_assoc,length_cons];have:k + 3 + 3 * r.length = k + 3 * (r.length + 1):=by omega
  rw [this]
theorem nY:∀ (k:Nat) (is:List ao) (i:ao),aC tx k (is ++ [i]) = aC tx k is ++ [(tx i.id,.ref (k + 3 * is.length + 1))]
 | k,[],i=>by simp [aC]
 | k,x :: r,i=>by
  rw [List.cons_append,aC,nY (k + 3) r i,aC,length_cons];have:k + 3 + 3 * r.length = k + 3 * (r.length + 1):=by omega
  rw [this];rfl
theorem iw:∀ (k:Nat) (is:List ao),(aC tx k is).length = is.length
 | _,[]=>rfl
 | k,i :: r=>by rw [aC,length_cons,iw (k + 3) r,length_cons]
theorem oy:∀ (k:Nat) (is:List ao) (j:Nat) (i:ao) (c:Nat),is[j]? = some i->c < 3->(b7 tx k is)[3 * j + c]? = (aW tx (k + 3 * j) i)[c]?
 | k,x :: r,0,i,c,e,hc=>by
  simp at e;subst e
  rw [b7,List.getElem?_append_left (by simp [aW];omega)]
  simp
 | k,x :: r,j + 1,i,c,e,hc=>by
  rw [b7,getElem?_append_right (by simp [aW];omega)]
  have h1:3 * (j + 1) + c - (aW tx k x).length = 3 * j + c:=by simp [aW];omega
  rw [h1,oy (k + 3) r j i c (by simpa using e) hc]
  have:k + 3 + 3 * j = k + 3 * (j + 1):=by omega
  rw [this]
theorem uy (i i':ao) (c:Nat) (o:ac) (hc:c < 3) (is:List ao):∀ (k j:Nat),is[j]? = some i->(aW tx (k + 3 * j) i).set c o = aW tx (k + 3 * j) i'->(b7 tx k is).set (3 * j + c) o = b7 tx k (is.set j i'):=by
 induction is with
 | nil=>intro k j e;simp at e
 | cons x r ih=>
  intro k j e h;have h0:(aW tx k x).length = 3:=rfl;have e1:b7 tx k (x :: r) = aW tx k x ++ b7 tx (k + 3) r:=rfl
  cases j with
  | zero=>
   simp at e;subst e
   have e2:b7 tx k ((x :: r).set 0 i') = aW tx k i' ++ b7 tx (k + 3) r:=rfl;have h':(aW tx k x).set c o = aW tx k i':=by simpa using h
   rw [e1,e2,set_append_left _ _ (by rw [h0];omega),Nat.mul_zero,Nat.zero_add,h']
  | succ j=>
   have e2:b7 tx k ((x :: r).set (j + 1) i') = aW tx k x ++ b7 tx (k + 3) (r.set j i'):=rfl;have h1:3 * (j + 1) + c - (aW tx k x).length = 3 * j + c:=by rw [h0];omega
   have h2:k + 3 + 3 * j = k + 3 * (j + 1):=by omega
   rw [e1,e2,set_append_right _ _ (by rw [h0];omega),h1,ih (k + 3) j (by simpa using e) (by rw [h2];exact h)]
theorem oG:∀ (k:Nat) (is:List ao) (j:Nat) (i i':ao),is[j]? = some i->i'.id = i.id->aC tx k (is.set j i') = aC tx k is
 | k,x :: r,0,i,i',e,h=>by simp at e;subst e;rw [List.set_cons_zero,aC,aC,h]
 | k,x :: r,j + 1,i,i',e,h=>by rw [List.set_cons_succ,aC,aC,oG (k + 3) r j i i' (by simpa using e) h]
noncomputable def cY (N:Nat):Prop:=∀ i j,i < N->j < N->tx i = tx j->i = j
structure a9 (N:Nat) (is:List ao):Prop where
 nd:(is.map (·.id)).Nodup
 lt:∀ i ∈ is,i.id < N
 sl:∀ i ∈ is,∀ j ∈ i.succ,j < N
variable {tx}
theorem i8 {N:Nat} (hT:cY tx N):∀ (k:Nat) (is:List ao) (j:Nat) (i:ao),a9 N is->is[j]? = some i->(aC tx k is).lookup (tx i.id) = some (.ref (k + 3 * j + 1))
 | k,x :: r,0,i,ok,e=>by
  simp at e;subst e
  rw [aC,dP,if_pos rfl]
 | k,x :: r,j + 1,i,ok,e=>by
  have e':r[j]? = some i:=by simpa using e
  have hm:i ∈ r:=mem_of_getElem? e';have nd:=ok.nd;rw [map_cons,List.nodup_cons] at nd;have ne:¬ tx x.id = tx i.id:=fun q=>nd.1 (by
   rw [hT _ _ (ok.lt x (.head _)) (ok.lt i (.tail _ hm)) q];exact List.mem_map.mpr ⟨i,hm,rfl⟩)
  rw [aC,dP,if_neg ne,i8 hT (k + 3) r j i ⟨nd.2,fun a h=>ok.lt a (.tail _ h),fun a h=>ok.sl a (.tail _ h)⟩ e']
  have:k + 3 + 3 * j = k + 3 * (j + 1):=by omega
  rw [this]
theorem lX {N:Nat} (hT:cY tx N) (t:Nat) (ht:t < N):∀ (k:Nat) (is:List ao),a9 N is->(∀ i ∈ is,i.id ≠ t)->(aC tx k is).lookup (tx t) = none
 | _,[],_,_=>rfl
 | k,x :: r,ok,h=>by
  have nd:=ok.nd;rw [map_cons,List.nodup_cons] at nd;have ne:¬ tx x.id = tx t:=fun q=>h x (.head _) (hT _ _ (ok.lt x (.head _)) ht q)
  rw [aC,dP,if_neg ne];exact lX hT t ht (k + 3) r ⟨nd.2,fun a h=>ok.lt a (.tail _ h),fun a h=>ok.sl a (.tail _ h)⟩ fun i hi=>h i (.tail _ hi)
end
end
variable {tx:Nat->Str}
noncomputable def sT (tx:Nat->Str) (pre:List ac) (is:List ao) (ready:D) (p f:Int) (post:List ac):List ac:=pre ++ (gO tx pre.length is ready p f ++ post)
theorem dZ (b:Nat) (is:List ao) (ready:D) (p f:Int):(gO tx b is ready p f).length = 3 + 3 * is.length:=by
 unfold gO;rw [length_append,oz];rfl
theorem oX (pre:List ac) (is:List ao) (ready:D) (p f:Int) (post:List ac) (c:Nat) (hc:c < 3 + 3 * is.length):(sT tx pre is ready p f post)[pre.length + c]? = (gO tx pre.length is ready p f)[c]?:=by
 unfold sT;rw [gA,List.getElem?_append_left (by rw [dZ];exact hc)]
variable {is:List ao} {ready:D} {f:Int} {post:List ac}
theorem b9 {pre:List ac} {p:Int}:(sT tx pre is ready p f post)[pre.length]? = some (.mns (fw (pre.length + 2) ready p f)):=oX pre is ready p f post 0 (by omega)
theorem co {pre:List ac} {p:Int}:(sT tx pre is ready p f post)[pre.length + 1]? = some (.minst 179 pre.length []):=oX pre is ready p f post 1 (by omega)
theorem gH {pre:List ac} {p:Int}:(sT tx pre is ready p f post)[pre.length + 2]? = some (.mdict (aC tx (pre.length + 3) is) none):=oX pre is ready p f post 2 (by omega)
theorem bJ {pre:List ac} {p:Int} {i:ao} (c:Nat) (hj:is[j]? = some i) (hc:c < 3):(sT tx pre is ready p f post)[pre.length + 3 + 3 * j + c]? = (aW tx (pre.length + 3 + 3 * j) i)[c]?:=by
 have hlt:=(List.getElem?_eq_some_iff.mp hj).1;have e:pre.length + 3 + 3 * j + c = pre.length + (3 + (3 * j + c)):=by omega
 rw [e,oX _ _ _ _ _ _ _ (by omega)]
 unfold gO;rw [getElem?_append_right (by simp)]
 have e2:3 + (3 * j + c) - ([.mns (fw (pre.length + 2) ready p f),.minst 179 pre.length [],.mdict (aC tx (pre.length + 3) is) none]:List ac).length = 3 * j + c:=by simp
 rw [e2,oy tx _ _ _ _ _ hj hc]
theorem jQ (pre:List ac) (is:List ao) (ready:D) (p f:Int) (post:List ac) (c:Nat) (hc:c < 3 + 3 * is.length) (o:ac):(sT tx pre is ready p f post).set (pre.length + c) o = pre ++ ((gO tx pre.length is ready p f).set c o ++ post):=by
 unfold sT;rw [sA,set_append_left _ _ (by rw [dZ];exact hc)]
theorem fQ {pre:List ac} {ready':D} {p p' f':Int}:(sT tx pre is ready p f post).set pre.length (.mns (fw (pre.length + 2) ready' p' f')) = sT tx pre is ready' p' f' post:=jQ pre is ready p f post 0 (by omega) _
variable {i':ao}
theorem iY {pre:List ac} {p:Int} {i:ao} (c:Nat) (o:ac) (hj:is[j]? = some i) (hc:c < 3) (hid:i'.id = i.id) (h:(aW tx (pre.length + 3 + 3 * j) i).set c o = aW tx (pre.length + 3 + 3 * j) i') :
  (sT tx pre is ready p f post).set (pre.length + 3 + 3 * j + c) o = sT tx pre (is.set j i') ready p f post:=by
 have hlt:=(List.getElem?_eq_some_iff.mp hj).1;have e:pre.length + 3 + 3 * j + c = pre.length + (3 + (3 * j + c)):=by omega
 rw [e,jQ _ _ _ _ _ _ _ (by omega)]
 unfold sT gO;rw [set_append_right _ _ (by simp)]
 have e2:3 + (3 * j + c) - ([.mns (fw (pre.length + 2) ready p f),.minst 179 pre.length [],.mdict (aC tx (pre.length + 3) is) none]:List ac).length = 3 * j + c:=by simp
 rw [e2,uy tx i i' c o hc is (pre.length + 3) j hj h,oG tx _ _ _ _ _ hj hid]
theorem yK {pre:List ac} {p:Int} {i:ao}:sT tx pre (is ++ [i]) ready p f [] = (sT tx pre is ready p f []).set (pre.length + 2) (.mdict (aC tx (pre.length + 3) is ++ [(tx i.id,.ref (pre.length + 3 + 3 * is.length + 1))]) none) ++ aW tx (pre.length + 3 + 3 * is.length) i:=by
 rw [jQ _ _ _ _ _ _ _ (by omega)]
 unfold sT gO;rw [nV,nY];simp
theorem dF {pre:List ac} {p:Int}:(sT tx pre is ready p f post).length = pre.length + 3 + 3 * is.length + post.length:=by
 unfold sT;rw [length_append,length_append,dZ];omega
noncomputable def place (b j:Nat):D:=.ref (b + 3 + 3 * j + 1)
noncomputable def de (is:List ao) (t:Nat):Nat × List ao:=match is.findIdx? (fun i=>decide (i.id = t)) with
 | some j=>(j,is)
 | none=>(is.length,is ++ [⟨t,0,[]⟩])
theorem dY (hK:W.K = hd.heap_39 P):findIn W.K (.ref 179) "_ready_nodes" = some none:=by rw [hK];with_unfolding_all rfl
theorem yV (hK:W.K = hd.heap_39 P):findIn W.K (.ref 179) "_node2info" = some none:=by rw [hK];with_unfolding_all rfl
theorem xc (hK:W.K = hd.heap_39 P):findIn W.K (.ref 179) "_npassedout" = some none:=by rw [hK];with_unfolding_all rfl
theorem yq (hK:W.K = hd.heap_39 P):findIn W.K (.ref 179) "_nfinished" = some none:=by rw [hK];with_unfolding_all rfl
theorem fc (hW:Wok W T) (hK:W.K = hd.heap_39 P) {pre:List ac} {p:Int} (he:EVM W T n env μ Θ (eval e env) (.ref (pre.length + 1)) μ' (sT tx pre is ready p f post))
  (hb:autoParam (attributeBase e "_node2info" env (eval e env) = eval e env) rfT):EVM W T n env μ Θ (eval (.Attribute e "_node2info" pos) env) (.ref (pre.length + 2)) μ' (sT tx pre is ready p f post):=
 dj hW (bh hK) he co b9 rfl (yV hK) hb
theorem EVM.eqd {c:Sem Value} (h:EVM W T n env μ Θ c d μ' Θ') (e:d = d'):EVM W T n env μ Θ c d' μ' Θ':=e ▸ h
theorem EVM.eqT {c:Sem Value} (h:EVM W T n env μ Θ c d μ' Θ') (e:Θ' = Θ''):EVM W T n env μ Θ c d μ' Θ'':=e ▸ h
theorem zf (hK:W.K = hd.heap_39 P) (h:env.kindOf "_NodeInfo" = some .globalImplicit):Glb W env "_NodeInfo" (.ref 82):=.top h (by rw [hK];with_unfolding_all rfl)
theorem dU:∀ {N:Nat} {l:List Nat},l.Nodup->(∀ x ∈ l,x < N)->l.length <= N
 | 0,[],_,_=>Nat.le_refl _
 | 0,x :: _,_,h=>absurd (h x (.head _)) (Nat.not_lt_zero _)
 | N + 1,l,hn,h=>by
  by_cases hm:N ∈ l
  ·have h1:=dU (N:=N) (l:=l.erase N) (hn.erase N) fun x hx=>by
    have h2:=h x (List.mem_of_mem_erase hx);have h3:x ≠ N:=fun q=>by subst q;exact absurd hx (hn.not_mem_erase)
    omega
   rw [List.length_erase_of_mem hm] at h1;omega
  ·have h1:=dU (N:=N) (l:=l) hn fun x hx=>by
    have h2:=h x hx;have h3:x ≠ N:=fun q=>by subst q;exact hm hx
    omega
   omega
variable {N:Nat}
theorem uW (hW:Wok W T) (hK:W.K = hd.heap_39 P) (hT:cY tx N) (pre:List ac) (is:List ao) (ready:D) (p f:Int) (t:Nat) (ht:t < N) (hN:N <= 100) (ok:a9 N is) :
  FM W T 5 (.ref 122) [.ref (pre.length + 1),.str (tx t)] (sT tx pre is ready p f []) (place pre.length (de is t).1) (sT tx pre (de is t).2 ready p f []):=by
 refine rU hW (by rw [hK];with_unfolding_all rfl) rfl (by rw [hK];with_unfolding_all rfl) rfl rfl rfl (names:=[Str.ofString "self",Str.ofString "node"]) (df (vs2 fun _ _=>rfl)) (by decide +kernel) (by decide +kernel) (fun L=>?_)
 unfold de
 cases hf:is.findIdx? (fun i=>decide (i.id = t)) with
 | some j=>
  obtain ⟨hj,hp,_⟩:=List.findIdx?_eq_some_iff_getElem.mp hf;have ej:is[j]? = some is[j]:=by simp [hj]
  have hid:is[j].id = t:=of_decide_eq_true hp;have hlook:=i8 hT (pre.length + 3) is j is[j] ok ej;rw [hid] at hlook;refine ae (eM (b:=false) (cI (ja hW (EVM.eqd (ll hW (fc hW hK (ai (aa rfl rfl))) (ai (aa rfl rfl)) gH gH) (congrArg (fun x=>x.getD D.none) hlook)) rfl) (ai cH) dM) (fun z=>nomatch z) (fun _=>ar)) ?_
  exact aM (iU (ai (aa rfl rfl))) rfl
 | none=>
  have hno:∀ i ∈ is,i.id ≠ t:=fun i hi q=>by
   have:=List.findIdx?_eq_none_iff.mp hf i hi;simp [q] at this
  have hlook:=lX hT t ht (pre.length + 3) is ok hno;have hlen:is.length <= 100:=by
   have h1:(is.map (·.id)).length <= N:=by
    have:=dU ok.nd (fun x hx=>by obtain ⟨i,hi,rfl⟩:=List.mem_map.mp hx;exact ok.lt i hi)
    exact this
   rw [length_map] at h1;omega
  have hnew:=uA (n:=2) hW (yE hK) (Θ:=sT tx pre is ready p f []) (ds:=[.str (tx t)]) (uE hW hK (sT tx pre is ready p f []) (tx t));have hL:(sT tx pre is ready p f []).length = pre.length + 3 + 3 * is.length:=by rw [dF];rfl
  have e1:sT tx pre is ready p f [] ++ [.mns [],.minst 82 (sT tx pre is ready p f []).length [some (.str (tx t)),some (.int 0),some (.ref ((sT tx pre is ready p f []).length + 2))],.mlist []] = sT tx pre is ready p f (aW tx (pre.length + 3 + 3 * is.length) ⟨t,0,[]⟩):=by
   rw [hL];unfold sT aW;simp
  have e2:D.ref ((sT tx pre is ready p f []).length + 1) = place pre.length is.length:=by rw [hL];rfl
  have e3:(sT tx pre is ready p f (aW tx (pre.length + 3 + 3 * is.length) ⟨t,0,[]⟩)).set (pre.length + 2) (.mdict (aC tx (pre.length + 3) is ++ [(tx t,place pre.length is.length)]) none) = sT tx pre (is ++ [⟨t,0,[]⟩]) ready p f []:=by
   rw [yK,jQ _ _ _ _ _ _ _ (by omega),jQ _ _ _ _ _ _ _ (by omega)]
   simp [place]
  refine ae (eM (b:=true) (cI (ja hW (EVM.eqd (ll hW (fc hW hK (ai (aa rfl rfl))) (ai (aa rfl rfl)) gH gH) (congrArg (fun x=>x.getD D.none) hlook)) rfl) (ai cH) dM)
   (fun _=>ae (EX.nxtT (uu hW (((t9 hW (zf hK rfl) (yE hK).keep (dg (ai (aa rfl rfl)) eV) (hnew.le (by decide))).eqT e1).eqd e2) (fc hW hK (ai (aa rfl rfl))) (ai (aa rfl rfl)) gH hlook (by rw [iw];omega) rfl) e3) ar) (fun z=>nomatch z)) ?_
  exact aM (iU (ai (aa rfl rfl))) rfl
variable {Θ3:List ac}
theorem zD (hit:h.IsTupleIter I l k):∃ o,h.get? I = some o /\ ¬ bH o:=
 let ⟨o,e,_,hd⟩:=hit;⟨o,e,cr hd fun q t z=>by simp at z⟩
theorem nH (hW:Wok W T) (he:EVP W T n env μ e (.tup ds)) (ht:b8 tgt):ITR W T n env μ e tgt ds:=by
 refine .of ?_;intro A s vm O M r k F V Q E q;refine he.run A s vm O M r k F V _ _ fun v h1a tA lA sI dA=>?_
 induction dA using tE with
 | tup pl nm dl=>
 rename_i ax vs;refine wpAny_pyIter_tuple pl.isTuple ?_
 obtain ⟨j,epl⟩:=pl;exact nt hW lA sI (Walks.tuple r.handled h1a.objs.size ax (fun q=>by rw [q,az] at epl;cases epl) vs.toArray) (List.size_toArray.trans dl.length) ⟨⟨_,Heap.get?_push_size _ rfl,rfl,rfl⟩,g7.isTuple ⟨j,Heap.get?_push_of_some _ epl⟩⟩
  (fun b hb=>(List.mem_cons.mp hb).imp id fun hb=>⟨_,_,j,List.mem_singleton.mp hb ▸ epl,rfl,List.mem_singleton.mp hb ▸ nm⟩)
  (fun i v d h M' pv hd hs mb=>let ⟨v',e,dv⟩:=dl.get i d hd;Option.some.inj (e.symm.trans (List.getElem?_toArray.symm.trans pv)) ▸ dv.kseqM hs (fun _ _ e=>e) mb) (fun i h st=>zD st.1) ht q
theorem mL (h:ds.length <= 1000000):FP W T n (.builtin "len") [.tup ds] (.int ds.length):=by
 refine .of ?_;intro A s O M vals r k dl Q E q
 induction dl using kE with
 | cons d1 dl=>
 induction dl using qE
 induction d1 using tE with
 | tup pl nm dl=>
 rename_i ax vs;have hl:=dl.length;obtain ⟨j,e⟩:=pl;refine len_tuple (items:=vs.toArray) ⟨_,e,rfl,j,rfl⟩ (by simp [hl];omega) ?_
 have:=q _ s.heap _ (le_add_right s.toks 2) (.refl k.gd) (.int (ds.length) (s.toks + 1));simpa [hl] using this
noncomputable def eU (is:List ao) (j:Nat) (g:ao->ao):List ao:=match is[j]? with
 | some i=>is.set j (g i)
 | none=>is
noncomputable def cG (t:Nat) (is:List ao) (p:Nat):List ao:=eU (de is p).2 (de is p).1 fun i=>{ i with succ:=i.succ ++ [t] }
noncomputable def mT (is:List ao) (t:Nat) (ps:List Nat):List ao:=ps.foldl (cG t) (eU (de is t).2 (de is t).1 fun i=>{ i with np:=i.np + ps.length })
variable {t:Nat}
theorem ik (ok:a9 N is) (ht:t < N):a9 N (de is t).2 /\ ∃ i,(de is t).2[(de is t).1]? = some i /\ i.id = t:=by
 unfold de
 cases hf:is.findIdx? (fun i=>decide (i.id = t)) with
 | some j=>
  obtain ⟨hj,hp,_⟩:=List.findIdx?_eq_some_iff_getElem.mp hf;exact ⟨ok,is[j],by simp [hj],of_decide_eq_true hp⟩
 | none=>
  have hno:∀ i ∈ is,i.id ≠ t:=fun i hi q=>by
   have:=List.findIdx?_eq_none_iff.mp hf i hi;simp [q] at this
  refine ⟨⟨?_,fun i hi=>?_,fun i hi=>?_⟩,⟨t,0,[]⟩,by simp,rfl⟩
  ·rw [map_append,List.nodup_append];refine ⟨ok.nd,by simp,fun a ha b hb=>?_⟩
   simp at hb;subst hb
   obtain ⟨i,hi,rfl⟩:=List.mem_map.mp ha;exact hno i hi
  ·rcases List.mem_append.mp hi with h | h
   ·exact ok.lt i h
   ·simp at h;subst h;exact ht
  ·rcases List.mem_append.mp hi with h | h
   ·exact ok.sl i h
   ·simp at h;subst h;exact fun j hj=>nomatch hj
theorem a9.set {i:ao} (ok:a9 N is) (hj:is[j]? = some i) (hid:i'.id = i.id) (hs:∀ k ∈ i'.succ,k < N):a9 N (is.set j i'):=by
 have hlt:=(List.getElem?_eq_some_iff.mp hj).1;have hij:=(List.getElem?_eq_some_iff.mp hj).2;refine ⟨?_,fun x hx=>?_,fun x hx=>?_⟩
 ·have:(is.set j i').map (·.id) = is.map (·.id):=by
   rw [map_set,hid,<- hij];have h2:(is.map (·.id))[j]? = some (is[j].id):=by simp [hlt]
   apply ext_getElem?
   intro k;by_cases hk:j = k
   ·subst hk;rw [getElem?_set_self (by simpa using hlt),h2]
   ·rw [getElem?_set_ne hk]
  rw [this];exact ok.nd
 ·rcases mem_or_eq_of_mem_set hx with h | h
  ·exact ok.lt x h
  ·rw [h,hid];exact ok.lt i (mem_of_getElem? hj)
 ·rcases mem_or_eq_of_mem_set hx with h | h
  ·exact ok.sl x h
  ·rw [h];exact hs
theorem mE {p:Nat} (ok:a9 N is) (ht:t < N) (hp:p < N):a9 N (cG t is p):=by
 obtain ⟨ok',i,hi,hid⟩:=ik ok hp;unfold cG eU;rw [hi];refine ok'.set hi rfl fun k hk=>?_
 rcases List.mem_append.mp hk with h | h
 ·exact ok'.sl i (mem_of_getElem? hi) k h
 ·simp at h;subst h;exact ht
theorem lU (ok:a9 N is) (ht:t < N) (c:Int):a9 N (eU (de is t).2 (de is t).1 fun i=>{ i with np:=i.np + c }):=by
 obtain ⟨ok',i,hi,hid⟩:=ik ok ht;unfold eU;rw [hi];exact ok'.set hi rfl fun k hk=>ok'.sl i (mem_of_getElem? hi) k hk
theorem rR {N:Nat} {t:Nat} (ht:t < N):∀ (ps:List Nat) (is:List ao),a9 N is->(∀ p ∈ ps,p < N)->a9 N (ps.foldl (cG t) is)
 | [],is,ok,_=>ok
 | p :: ps,is,ok,h=>rR ht ps (cG t is p) (mE ok ht (h p (.head _))) fun q hq=>h q (.tail _ hq)
noncomputable def SB (c:Nat) (is:List ao):Prop:=∀ i ∈ is,i.succ.length <= c
theorem SB.getI {c:Nat} {is:List ao} (h:SB c is) (t:Nat):SB c (de is t).2:=by
 unfold Mine.de
 cases is.findIdx? (fun i=>decide (i.id = t)) with
 | some j=>exact h
 | none=>
  intro i hi;rcases List.mem_append.mp hi with q | q
  ·exact h i q
  ·simp at q;subst q;exact zero_le _
theorem SB.mod {c:Nat} {g:ao->ao} (h:SB c is) (hg:∀ i,i.succ.length <= c->(g i).succ.length <= c):SB c (eU is j g):=by
 unfold eU
 cases e:is[j]? with
 | none=>exact h
 | some i=>
  intro x hx;rcases mem_or_eq_of_mem_set hx with q | q
  ·exact h x q
  ·rw [q];exact hg i (h i (mem_of_getElem? e))
theorem SB.step {c:Nat} (h:SB c is) (t p:Nat):SB (c + 1) (cG t is p):=by
 have h1:SB c (Mine.de is p).2:=h.getI p;unfold cG eU
 cases e:(Mine.de is p).2[(Mine.de is p).1]? with
 | none=>exact fun i hi=>Nat.le_trans (h1 i hi) (le_succ _)
 | some i=>
  intro x hx;rcases mem_or_eq_of_mem_set hx with q | q
  ·exact Nat.le_trans (h1 x q) (le_succ _)
  ·rw [q];simpa using h1 i (mem_of_getElem? e)
theorem yF (hW:Wok W T) (hK:W.K = hd.heap_39 P) (hT:cY tx N) (pre:List ac) (is:List ao) (p f:Int) (t:Nat) (ht:t < N) (hN:N <= 100) (ok:a9 N is) (ps:List Nat) (hps:∀ q ∈ ps,q < N) (hlen:ps.length <= 100) (c:Nat) (hc:SB c is) (hcb:c + ps.length <= 5000) :
  FM W T 7 (.ref 129) ([.ref (pre.length + 1),.str (tx t)] ++ ps.map fun q=>.str (tx q)) (sT tx pre is .none p f []) .none (sT tx pre (mT is t ps) .none p f []):=by
 refine kN hW (by rw [hK];with_unfolding_all rfl) rfl (by rw [hK];with_unfolding_all rfl) rfl rfl rfl (names:=[Str.ofString "self",Str.ofString "node",Str.ofString "predecessors"])
  (qO (x := "predecessors") hW (fun more=>vs2 fun _ _=>?_) (by rw [length_map];omega)) (by decide +kernel) (by decide +kernel) (fun L=>?_)
 ·unfold bindArgs;simp only [Option.isNone_some,Bool.and_false,Bool.false_eq_true,if_false];with_unfolding_all rfl
 ·refine ae (eM (b:=false) (cI (dj hW (bh hK) (ai (aa rfl rfl)) co b9 rfl (dY hK)) (ai cH) el) (fun z=>nomatch z) (fun _=>ar)) ?_
  obtain ⟨ok',i,hi,hid⟩:=ik ok ht;refine ae (aT hW (lQ hW (bh hK) (wI hK) (ai (aa rfl rfl)) co b9 rfl (dg (ai (aa rfl rfl)) eV) ((uW hW hK hT pre is .none p f t ht hN ok).le (by decide))) rfl) ?_
  refine ae (EX.nxtT (lg (c:=i.np + ps.length) hW (dq hK) (iI hK) (ai (aa rfl rfl)) (ai (a7 hW (ck hK rfl) (af (aa rfl rfl) ak) (mL (by rw [length_map];omega)) rfl)) (bJ 1 hi (by decide)) (bJ 0 hi (by decide)) (by decide) rfl (.inl ⟨rfl,by rw [length_map]⟩))
   (iY 1 _ hi (by decide) (i':={ i with np:=i.np + ps.length }) rfl rfl)) ?_
  have e0:(de is t).2.set (de is t).1 { i with np:=i.np + ps.length } = eU (de is t).2 (de is t).1 fun i=>{ i with np:=i.np + ps.length }:=by unfold eU;rw [hi]
  rw [e0];refine ae (dJ (nH hW (aa rfl rfl) rfl) (dm (fun q:Nat=>.str (tx q)) (cG t) (fun is=>sT tx pre is .none p f []) (fun k is=>a9 N is /\ ∃ c',SB c' is /\ c' + k <= 5000) ps _ (fun is' q k hq hin=>?_) ⟨lU ok ht _,c,(hc.getI t).mod fun _ h=>h,by omega⟩) rfl) iN
  obtain ⟨ok1,cA,hc1,hkA⟩:=hin;have hq':=hps q hq;obtain ⟨okJ,iB,hiB,hid2⟩:=ik ok1 hq';refine ⟨⟨mE ok1 ht hq',cA + 1,hc1.step t q,by omega⟩,_,_,ay hW rfl,?hb,fun _ _ e=>e⟩
  case hb=>
   refine ae (aT hW (lQ hW (bh hK) (wI hK) (ai (aa rfl rfl)) co b9 rfl (dg (ai (aa rfl rfl)) eV) ((uW hW hK hT pre is' .none p f q hq' hN ok1).le (by decide))) rfl) ?_
   have hlen2:(iB.succ.map fun j=>D.str (tx j)).length <= 10000:=by
    rw [length_map];have:=(hc1.getI q) iB (mem_of_getElem? hiB);omega
   have e2:(de is' q).2.set (de is' q).1 { iB with succ:=iB.succ ++ [t] } = cG t is' q:=by unfold cG eU;rw [hiB]
   refine ae (EX.nxtT (dz (fq hW (fH hW (dq hK) (lS hK) (ai (aa rfl rfl)) (bJ 1 hiB (by decide)) (bJ 0 hiB (by decide)) rfl) (ai (aa rfl rfl)) (bJ 2 hiB (by decide)) (bJ 2 hiB (by decide)) hlen2)) (Θ'':=sT tx pre (cG t is' q) .none p f []) ?_) (ar.sub (bx (bx (fun _ _ e=>e) (.inr rfl)) (.inr rfl)))
   rw [<- e2];exact iY 2 _ hiB (by decide) (i':={ iB with succ:=iB.succ ++ [t] }) rfl (by simp [aW])
variable {it:Addr}
theorem qf (hh:A.handled = none) (hit:s.heap.IsListIter it l i) (hl:s.heap.IsList l items) (hx:items[i]? = none)
  (hE:∀ h' e,Heap.ExtBut it s.heap h'->(h'.get? it).isSome->s.heap.get? e = none->(∃ t vs,h'.get? e = some { cls:=.type "StopIteration",data:=.fields vs } /\ vs[0]? = some (.ref t) /\ vs[1]? = some .none)->E (.ref e) { s with heap:=h' }) :
  wpAny (model prog w) A (call (.builtin "list_iterator.__next__") [.ref it]) Q E s:=by
 obtain ⟨ob,ho,hc,hd⟩:=id hit;obtain ⟨ol,hol,_,nl,hdl⟩:=hl;refine wpAny_call_entry slot_listiter_next hit.typeIs entry_listiter_next ?_ (args_listiter_next _)
 show wpAny _ _ (field (.ref it) 0 >>= _) _ _ s;refine wpAny_bind (wpAny_field ho hd (x:=.ref l) rfl ?_)
 show wpAny _ _ (if (Value.ref l == Value.none) = true then _ else _) _ _ s
 rw [if_neg (show ¬ ((Value.ref l == Value.none) = true) from Bool.false_ne_true)]
 show wpAny _ _ (field (.ref it) 1 >>= _) _ _ s;refine wpAny_bind (wpAny_field ho hd (x:=.int i 0) rfl ?_)
 show wpAny _ _ (seqItems? (.ref l) >>= _) _ _ s;refine wpAny_bind (wpAny_seqItems hol hdl ?_)
 simp only [Int.toNat_natCast,hx];refine wpAny_bind (wpAny_rule (wpAny_bind (wpAny_setField ho hd (by simp) ?_)))
 show wpAny _ _ (newExc (.type "StopIteration") [] >>= _) _ _ _;refine wpAny_bind ?_
 simp only [newExc,newTuple];refine wpAny_bind (wpAny_newObj_type ?_ (by size_fits))
 refine wpAny_bind (m:=firstArgMember _ _) (wpAny_of_eq (a:=Value.none) (by first | rfl | (simp only [firstArgMember];rfl)) ?_)
 refine wpAny_newObj_type ?_ (by size_fits)
 unfold raiseNew;refine wpAny_bind (wpAny_handled ?_)
 rw [show A.in1.handled = none from hh]
 refine wpAny_bind (wpAny_pure (wpAny_throw ?_))
 have hf:=Heap.get?_update_self (Obj.mapFields fun x=>x.setIfInBounds 0 Value.none) ho (Obj.isFreed_of_fields (Obj.data_mapFields hd _))
 have hs1:((s.heap.update it (Obj.mapFields fun x=>x.setIfInBounds 0 Value.none)).push { cls:=Value.type "tuple",data:=Data.seq #[] }).objs.size = s.heap.objs.size + 1:=by
  rw [Heap.size_push,(Heap.SameBut.update s.heap it _).1]
 refine hE _ _ (((Heap.SameBut.update ..).extBut.push _).push _) ?_ ?_ ⟨(s.heap.update it (Obj.mapFields fun x=>x.setIfInBounds 0 Value.none)).objs.size,_,Heap.get?_push_size _ rfl,by rw [Array.getElem?_append_left (Nat.lt_of_sub_ne_zero (by simp))];rfl,by rw [Array.getElem?_append_left (Nat.lt_of_sub_ne_zero (by simp))];rfl⟩
 ·rw [Heap.get?_push_of_some _ (Heap.get?_push_of_some _ hf)];rfl
 ·rw [hs1];exact Heap.get?_none_of_le (le_succ _)
theorem qX {Q:Option Value->Shared->Prop} (hh:A.handled = none) (hit:s.heap.IsListIter it l i) (hl:s.heap.IsList l items) (hx:items[i]? = none)
  (hQ:∀ h',Heap.ExtBut it s.heap h'->(h'.get? it).isSome->Q none { s with heap:=h' }):wpAny (model prog w) A (pyNext (.ref it)) Q E s:=by
 unfold pyNext;refine wpAny_bind (wpAny_attempt (wpAny_callSpecial?_slot (name:=Str.ofString "__next__") hit.typeIs slot_listiter_next (qf hh hit hl hx fun h' e k1 k2 k3 k4=>?_)))
 obtain ⟨t,vs,he,_⟩:=k4;refine wpAny_bind (wpAny_isInstance (T := "StopIteration") (b:=true) ⟨_,he,rfl⟩ isSubtype_stop ?_)
 exact wpAny_pure (hQ _ k1 k2)
theorem RpH.drop1 (hW:Wok W T) {a:Addr} {ob:ac} (R:RpH W T M0 Θ h O) (ha:O[i]? = some a) (hi:Θ[i]? = some ob) (hg:ob ≠ .gone) (ex:Heap.ExtBut a h h') (hs:(h'.get? a).isSome) :
  RpH W T M0 (Θ.set i .gone) h' O /\ Nx W Nox h O Θ h' O (Θ.set i .gone):=by
 have hlt:=(List.getElem?_eq_some_iff.mp hi).1;have la:bf O Θ a:=⟨i,_,ha,hi,hg⟩;have mx:∀ b,Mx M0 O (Θ.set i .gone) b->Mx M0 O Θ b:=fun b m=>m.imp id (jv ha hi hg b)
 have gr:∀ b,(h.get? b).isSome->(h'.get? b).isSome:=fun b e=>by
  by_cases q:b = a
  ·subst q;exact hs
  ·obtain ⟨ob',e'⟩:=Option.isSome_iff_exists.mp e;rw [ex b ob' q e'];rfl
 obtain ⟨r,er,nc,_⟩:=(R.obs i a ob ha hi).rec hg;have ks:aN (Mx M0 O Θ) h h':=fun b ob xs j nb e _=>ex b ob (fun z=>nb (.inr (z ▸ la))) e
 refine ⟨⟨R.gd.base hW fun b ob hb e=>ex b ob (fun z=>?_) e,fun b m=>⟨(R.live b m).1,gr b (R.live b m).2⟩,by simp [R.len],R.nd,R.apart,R.above,fun b hb=>gr b (R.there b hb),fun j b ob2 h1 h2=>?_⟩,
  ⟨fun b ob _ nx e=>ex b ob (fun z=>nx (.inr (z ▸ la))) e,.refl _ _,gr,gw hi hg⟩⟩
 ·subst z;rw [er] at e;cases e;exact hb.elim (fun h1=>absurd (R.above b (mem_of_getElem? ha)) (Nat.not_le.mpr h1)) nc
 ·by_cases hj:i = j
  ·subst hj;simp [hlt] at h2;subst h2;exact trivial
  ·rw [getElem?_set_ne hj] at h2;have ne:b ≠ a:=fun z=>by subst z;exact hj (eF R.nd ha h1)
   exact (R.obs j b ob2 h1 h2).move (fun _ o e=>ex b o ne e) ks (fun _ _ e=>e) fun b m _=>mx b m
theorem wB (hW:Wok W T) {li:Nat} (hi:Θ[i]? = some (.mliter li k)) (hl:Θ[li]? = some (.mlist ds)) (hk:ds[k]? = some d):NXT W T i Θ (some d) (Θ.set i (.mliter li (k + 1))):=by
 refine .of ?_;intro A s O M0 a hh R ha Q E q;obtain ⟨l,hli,hit⟩:=R.obs i a _ ha hi;obtain ⟨vs,pl,dl⟩:=R.obs li l _ hli hl;obtain ⟨v,hv,dv⟩:=dl.get k d hk;refine wpAny_pyNext_list_item (x:=v) hit pl.isList (by simpa using hv) fun h' hit' sb=>?_
 obtain ⟨R',x'⟩:=R.upd hW (ob':=.mliter li (k + 1)) ha hi nox nox sb ⟨l,hli,hit'⟩;exact q _ h' s.toks O (Nat.le_refl _) R' x' (.some (dv.nxH R x'))
theorem ye (hW:Wok W T) {li:Nat} (hi:Θ[i]? = some (.mliter li k)) (hl:Θ[li]? = some (.mlist ds)) (hk:ds[k]? = none):NXT W T i Θ none (Θ.set i .gone):=by
 refine .of ?_;intro A s O M0 a hh R ha Q E q;obtain ⟨l,hli,hit⟩:=R.obs i a _ ha hi;obtain ⟨vs,pl,dl⟩:=R.obs li l _ hli hl;have hk':vs.toArray[k]? = none:=by
  have:=List.getElem?_eq_none_iff.mp hk;simp;rw [dl.length];exact this
 refine qX hh hit pl.isList hk' fun h' ex hs=>?_
 obtain ⟨R',x'⟩:=R.drop1 hW ha hi nox ex hs;exact q _ h' s.toks O (Nat.le_refl _) R' x' .none
theorem vJ (hW:Wok W T) {li:Nat} (hl:Θ[li]? = some (.mlist ds)):MKI W T (.ref li) Θ Θ.length (Θ ++ [.mliter li 0]):=by
 refine .of ?_;intro A s O M0 v hh R dv Q E q
 induction dv using rE with
 | ref hli=>
 rename_i l;obtain ⟨vs,pl,dl⟩:=R.obs li l _ hli hl;refine wpAny_pyIter_list pl.isList ?_
 have st:Stp W T s.heap (s.heap.push { cls:=.type "list_iterator",data:=.fields #[.ref l,.int 0 0] }):=.of hW R.gd fun a o e=>Heap.get?_push_of_some _ e
 obtain ⟨R',x'⟩:=R.new (a:=s.heap.objs.size) (ob:=.mliter li 0) st az R.gd.size (by rw [Heap.get?_push_size _ rfl];rfl) ⟨l,dt hli,_,Heap.get?_push_size _ rfl,rfl,rfl⟩
 exact q _ _ s.toks _ (Nat.le_refl _) R' x' (.ref (by rw [<- R.len];simp))
theorem uT (hW:Wok W T) (hx:Glb W env "tuple" (.type "tuple")) (he:EVM W T n env μ Θ (eval e env) (.ref i) μ' Θ') (hi:Θ'[i]? = some (.mlist ds)) (hl:ds.length <= 10000) (hs:autoParam (starEach [e] env = [(false,eval e env)]) rfT) :
  EVM W T n env μ Θ (eval (.Call (.Name "tuple" np) [e] [] pos) env) (.tup ds) μ' Θ':=by
 refine .of ?_;intro A s vm O M0 r t R Q E q;refine Call_Name1 (bT hW R.gd R.fm hx ?_) hs
 refine aO rfl rfl (Calls.evalArgs_plain (Calls.spliced_cons (he.run A s vm O M0 r t R _ _ fun v h1a tA vm1 O1 lA R1 xA dA=>Calls.spliced_nil ?_)))
 induction dA using rE with
 | ref ha=>
 rename_i a;obtain ⟨vs,pl,dl⟩:=R1.obs i a _ ha hi;refine call_tuple_list (s:={ s with heap:=h1a,toks:=tA }) pl.isList (fun h' kp=>?_) (by rw [List.size_toArray,dl.length,sizeLine_eq];omega)
 have stA:Stp W T h1a h':=.of hW R1.gd kp;have stB:Stp W T h' (h'.push { cls:=.type "tuple",data:=.seq vs.toArray }):=.of hW stA.gd fun a o e=>Heap.get?_push_of_some _ e
 have st:=stA.trans stB;have kI:Ok W T (Mx M0 O1 Θ') { s with heap:=h1a,toks:=tA }:=R1.toRpH.ok (Nat.le_trans t lA)
 exact q _ _ tA vm1 O1 lA (R1.step st) (xA.trans (.of st) R.len) (.tup ⟨0,Heap.get?_push_size _ rfl⟩ (ij kI stA) (dl.st R1.gd st.kp))
theorem j4 (hW:Wok W T) {x:Str} {i:Int} {t:Tok} (hx:Glb W env x (.int i t)) (hd:autoParam ((x == ("__debug__" : Str)) = false) deT):EVP W T n env μ (.Name x pos) (.int i):=
 .of fun _ s _ _ _ _ k F _ _ _ q=>bT hW k.gd F hx (q _ s.heap s.toks (Nat.le_refl _) (.refl k.gd) (.int ..)) hd
mutual
noncomputable def D.lo (k:Nat):D->Bool
 | .none | .bool _ | .int _ | .str _=>true
 | .list ds=>D.loL k ds
 | .tup ds=>D.loL k ds
 | .ref i=>decide (i < k)
noncomputable def D.loL (k:Nat):List D->Bool
 | []=>true
 | d :: ds=>D.lo k d && D.loL k ds
end
noncomputable def ac.lo (k:Nat):ac->Bool
 | .gone=>true
 | .mlist ds=>D.loL k ds
 | .mns m=>m.all fun p=>p.2.lo k
 | .minst _ j ss=>decide (j < k) && ss.all fun o=>match o with | some d=>d.lo k | none=>true
 | .mdict kvs _=>kvs.all fun p=>p.2.lo k
 | .mset _=>true
 | .mliter i _=>decide (i < k)
 | .mkiter i _ _ _=>decide (i < k)
 | .mwrap i=>decide (i < k)
 | .mframe ..=>true
theorem r4 (ds:List D) (e:(D.list ds).lo k = true):D.loL k ds = true:=by rw [D.lo] at e;exact e
theorem uY (ds:List D) (e:(D.tup ds).lo k = true):D.loL k ds = true:=by rw [D.lo] at e;exact e
theorem rG (d:D) (ds:List D) (e:D.loL k (d :: ds) = true):d.lo k = true /\ D.loL k ds = true:=by rw [D.loL,Bool.and_eq_true] at e;exact e
theorem u6 (i:Nat) (e:(D.ref i).lo k = true):i < k:=by rw [D.lo] at e;exact of_decide_eq_true e
theorem Den.lo (ho:∀ (i:Nat) (a:Addr),i < k->O[i]? = some a->O'[i]? = some a) (hm:∀ a,M' a->M a) (x:Den h O M v d) (e:d.lo k = true):Den h O' M' v d:=x.tr r4 uY rG (fun a _ _ _ q e _=>⟨e,fun m=>q (hm a m)⟩) (fun i a e=>ho i a (u6 i e)) e
theorem am.lo (ho:∀ (i:Nat) (a:Addr),i < k->O[i]? = some a->O'[i]? = some a) (hm:∀ a,M' a->M a) (x:am h O M vs ds) (e:D.loL k ds = true):am h O' M' vs ds:=x.tr r4 uY rG (fun a _ _ _ q e _=>⟨e,fun m=>q (hm a m)⟩) (fun i a e=>ho i a (u6 i e)) e
variable {vk:List (Str × Value)} {kvs:List (Str × D)}
theorem bY.lo (ho:∀ (i:Nat) (a:Addr),i < k->O[i]? = some a->O'[i]? = some a) (hm:∀ a,M' a->M a) (x:bY h O M vk kvs) (e:(kvs.all fun p=>p.2.lo k) = true):bY h O' M' vk kvs:=by
 induction x with
 | nil=>exact .nil
 | cons y _ ih=>rw [all_cons,Bool.and_eq_true] at e;exact .cons (y.lo ho hm e.1) (ih e.2)
variable {ss:List (Option D)}
theorem bQ.lo (ho:∀ (i:Nat) (a:Addr),i < k->O[i]? = some a->O'[i]? = some a) (hm:∀ a,M' a->M a) {vs:List (Option Value)} (x:bQ h O M vs ss) (e:(ss.all fun o=>match o with | some d=>d.lo k | none=>true) = true):bQ h O' M' vs ss:=by
 induction x with
 | nil=>exact .nil
 | cons y _ ih=>
  rw [all_cons,Bool.and_eq_true] at e;refine .cons ?_ (ih e.2)
  cases y with
  | none=>exact .none
  | some z=>exact .some (z.lo ho hm e.1)
theorem sN {m:List (Str × D)} (e:(m.all fun p=>p.2.lo k) = true) {x:Str} (hx:m.lookup x = some d):d.lo k = true:=by
 induction m with
 | nil=>cases hx
 | cons p m ih=>
  obtain ⟨y,d'⟩:=p;rw [all_cons,Bool.and_eq_true] at e;rw [dP] at hx;split at hx
  ·cases hx;exact e.1
  ·exact ih e.2 hx
theorem Obs.lo {a:Addr} {o:ac} (ho:∀ (i:Nat) (a:Addr),i < k->O[i]? = some a->O'[i]? = some a) (hm:∀ a,M' a->M a) (x:Obs W h O M a o) (e:o.lo k = true):Obs W h O' M' a o:=by
 cases o with
 | gone=>exact trivial
 | mlist ds=>obtain ⟨vs,pl,y⟩:=x;exact ⟨vs,pl,y.lo ho hm e⟩
 | mns m=>
  obtain ⟨vm,hn,y⟩:=x;refine ⟨vm,hn,fun x=>?_⟩
  have z:=y x
  cases q:m.lookup x with
  | none=>rw [q] at z;rw [cP z];exact .none
  | some d=>
   rw [q] at z
   cases w:vm x with
   | none=>rw [w] at z;cases z
   | some v=>rw [w] at z;cases z with | some z=>exact .some (z.lo ho hm (sN e q))
 | minst C j ss=>
  have e':(decide (j < k) && ss.all fun o=>match o with | some d=>d.lo k | none=>true) = true:=e
  rw [Bool.and_eq_true] at e';obtain ⟨dx,vs,e1,e2,y⟩:=x;exact ⟨dx,vs,e1,ho _ _ (of_decide_eq_true e'.1) e2,y.lo ho hm e'.2⟩
 | mdict kvs ep=>obtain ⟨vk,eZ,D0,r,y⟩:=x;exact ⟨vk,eZ,D0,r,y.lo ho hm e⟩
 | mset ks=>exact x
 | mliter i j=>obtain ⟨l,e1,r⟩:=x;exact ⟨l,ho _ _ (of_decide_eq_true e) e1,r⟩
 | mkiter i j n ep=>obtain ⟨l,e1,r⟩:=x;exact ⟨l,ho _ _ (of_decide_eq_true e) e1,r⟩
 | mwrap i=>obtain ⟨l,e1,r⟩:=x;exact ⟨l,ho _ _ (of_decide_eq_true e) e1,r⟩
 | mframe env m=>exact x
variable {G:List ac}
theorem RpH.trunc (R:RpH W T M0 (Θ' ++ G) h O) (hl:(Θ'.all fun o=>o.lo Θ'.length) = true):RpH W T M0 Θ' h (O.take Θ'.length):=by
 have hlen:O.length = Θ'.length + G.length:=by rw [R.len,length_append]
 have tk:∀ (i:Nat) (a:Addr),(O.take Θ'.length)[i]? = some a->O[i]? = some a /\ i < Θ'.length:=fun i a e=>by
  have h1:=(List.getElem?_eq_some_iff.mp e).1;rw [length_take] at h1;have h2:i < Θ'.length:=by omega
  rw [getElem?_take_of_lt h2] at e;exact ⟨e,h2⟩
 have ho:∀ (i:Nat) (a:Addr),i < Θ'.length->O[i]? = some a->(O.take Θ'.length)[i]? = some a:=fun i a hi e=>by rw [getElem?_take_of_lt hi];exact e
 have hm:∀ a,Mx M0 (O.take Θ'.length) Θ' a->Mx M0 O (Θ' ++ G) a:=fun a m=>m.imp id fun ⟨i,o,h1,h2,h3⟩=>⟨i,o,(tk i a h1).1,by rw [List.getElem?_append_left (tk i a h1).2];exact h2,h3⟩
 refine ⟨R.gd,R.live,by rw [length_take];omega,R.nd.sublist (List.take_sublist _ _),fun a ha=>R.apart a (List.mem_of_mem_take ha),fun a ha=>R.above a (List.mem_of_mem_take ha),fun a ha=>R.there a (List.mem_of_mem_take ha),fun i a o h1 h2=>?_⟩
 obtain ⟨e1,e2⟩:=tk i a h1;exact (R.obs i a o e1 (by rw [List.getElem?_append_left e2];exact h2)).lo ho hm (List.all_eq_true.mp hl o (mem_of_getElem? h2))
theorem Nx.trunc (x:Nx W X h O Θ h' O' (Θ' ++ G)) (hO:O.length = Θ.length) (hle:Θ.length <= Θ'.length):Nx W X h O Θ h' (O'.take Θ'.length) Θ':=by
 refine ⟨x.kp,⟨fun i a e=>?_,fun i a e=>?_⟩,x.grow,⟨hle,fun i e=>?_⟩⟩
 ·have h1:=(List.getElem?_eq_some_iff.mp e).1;rw [getElem?_take_of_lt (by omega)];exact x.ext.pre i a e
 ·refine x.ext.new i a ?_
  have h1:=(List.getElem?_eq_some_iff.mp e).1;rw [length_take] at h1;rw [getElem?_take_of_lt (by omega)] at e;exact e
 ·have h1:=(List.getElem?_eq_some_iff.mp e).1;have:=x.later.gone i e;rw [List.getElem?_append_left (by omega)] at this
  exact this
theorem FM.trunc {f:Value} (h:FM W T n f as Θ d (Θ' ++ G)) (hl:(Θ'.all fun o=>o.lo Θ'.length) = true) (hd:d.lo Θ'.length = true) (hle:Θ.length <= Θ'.length):FM W T n f as Θ d Θ':=by
 refine .of ?_;intro A s O M0 vals r t R V P q;refine h.code A s O M0 vals r t R V P fun v h' tk O' le R' x dv=>?_
 refine q v h' tk _ le (R'.trunc hl) (x.trunc R.len hle) (dv.lo (k:=Θ'.length) (fun i a hi e=>by rw [getElem?_take_of_lt hi];exact e) (fun a m=>m.imp id fun ⟨i,o,h1,h2,h3⟩=>?_) hd)
 have h4:=(List.getElem?_eq_some_iff.mp h2).1;exact ⟨i,o,by rw [getElem?_take_of_lt h4] at h1;exact h1,by rw [List.getElem?_append_left h4];exact h2,h3⟩
theorem cF {pre:List ac} {p:Int} (c:Nat):(sT tx pre is ready p f post)[pre.length + 3 + 3 * is.length + c]? = post[c]?:=by
 have e:pre.length + 3 + 3 * is.length + c = pre.length + (3 + 3 * is.length + c):=by omega
 unfold sT;rw [e,gA,getElem?_append_right (by rw [dZ];omega),dZ]
 have:3 + 3 * is.length + c - (3 + 3 * is.length) = c:=by omega
 rw [this]
theorem dC {pre:List ac} {p:Int} (c:Nat) (o:ac):(sT tx pre is ready p f post).set (pre.length + 3 + 3 * is.length + c) o = sT tx pre is ready p f (post.set c o):=by
 have e:pre.length + 3 + 3 * is.length + c = pre.length + (3 + 3 * is.length + c):=by omega
 unfold sT;rw [e,sA,set_append_right _ _ (by rw [dZ];omega),dZ]
 have:3 + 3 * is.length + c - (3 + 3 * is.length) = c:=by omega
 rw [this]
theorem gR {pre:List ac} {p:Int} (o:ac):sT tx pre is ready p f post ++ [o] = sT tx pre is ready p f (post ++ [o]):=by unfold sT;simp
noncomputable def ixI (is:List ao) (t:Nat):Option Nat:=(is.map (·.id)).findIdx? fun x=>decide (x = t)
theorem cC (h:ixI is t = some j):∃ i,is[j]? = some i /\ i.id = t:=by
 obtain ⟨hj,hp,_⟩:=List.findIdx?_eq_some_iff_getElem.mp h;have hj':j < is.length:=by simpa using hj
 refine ⟨is[j],by simp [hj'],?_⟩
 have:=of_decide_eq_true hp;simpa using this
theorem rh {is':List ao} (h:is'.map (·.id) = is.map (·.id)) (t:Nat):ixI is' t = ixI is t:=by unfold ixI;rw [h]
theorem nh {i:ao} (hj:is[j]? = some i) (hid:i'.id = i.id):(is.set j i').map (·.id) = is.map (·.id):=by
 have hlt:=(List.getElem?_eq_some_iff.mp hj).1;have hij:=(List.getElem?_eq_some_iff.mp hj).2;rw [map_set,hid,<- hij];apply ext_getElem?
 intro k;by_cases hk:j = k
 ·subst hk;rw [getElem?_set_self (by simpa using hlt)];simp [hlt]
 ·rw [getElem?_set_ne hk]
theorem kK (hT:cY tx N) (ok:a9 N is) (h:ixI is t = some j):(aC tx k is).lookup (tx t) = some (.ref (k + 3 * j + 1)):=by
 obtain ⟨i,hi,rfl⟩:=cC h;exact i8 hT k is j i ok hi
noncomputable def aX (is:List ao) (t:Nat):List ao:=match ixI is t with
 | some j=>eU is j fun i=>{ i with np:=-1 }
 | none=>is
theorem kT (is:List ao) (t:Nat):(aX is t).map (·.id) = is.map (·.id):=by
 unfold aX
 cases h:ixI is t with
 | none=>rfl
 | some j=>
  obtain ⟨i,hi,_⟩:=cC h;simp only [eU,hi];exact nh hi rfl
theorem lf (is:List ao) (t:Nat):(aX is t).length = is.length:=by have:=congrArg List.length (kT is t);simpa using this
theorem sx (ok:a9 N is) (t:Nat):a9 N (aX is t):=by
 unfold aX
 cases h:ixI is t with
 | none=>exact ok
 | some j=>
  obtain ⟨i,hi,_⟩:=cC h;simp only [eU,hi];exact ok.set hi rfl fun k hk=>ok.sl i (mem_of_getElem? hi) k hk
theorem uM (hK:W.K = hd.heap_39 P) (h:env.kindOf "_NODE_OUT" = some .globalImplicit):Glb W env "_NODE_OUT" (.int (-1) 241):=.top h (by rw [hK];with_unfolding_all rfl)
theorem xV (hK:W.K = hd.heap_39 P) (h:env.kindOf "_NODE_DONE" = some .globalImplicit):Glb W env "_NODE_DONE" (.int (-2) 244):=.top h (by rw [hK];with_unfolding_all rfl)
theorem yx (hK:W.K = hd.heap_39 P):takerIn W.K 179 "_npassedout" = some none:=by rw [hK];with_unfolding_all rfl
theorem za (hK:W.K = hd.heap_39 P):takerIn W.K 179 "_nfinished" = some none:=by rw [hK];with_unfolding_all rfl
theorem ry (hK:W.K = hd.heap_39 P):takerIn W.K 179 "_ready_nodes" = some none:=by rw [hK];with_unfolding_all rfl
noncomputable abbrev rk (pre:List ac) (is:List ao) (c:Nat):D:=.ref (pre.length + 3 + 3 * is.length + c)
theorem pe (hW:Wok W T) (hK:W.K = hd.heap_39 P) (hT:cY tx N) (pre:List ac) (is:List ao) (p f:Int) (post:List ac) (c:Nat) (ready:List Nat) (ok:a9 N is) (hc:post[c]? = some (.mlist (ready.map fun j=>.str (tx j)))) (hr:∀ t ∈ ready,(ixI is t).isSome = true) (hl:ready.length <= 1000) :
  FM W T 4 (.ref 141) [.ref (pre.length + 1)] (sT tx pre is (rk pre is c) p f post) (.tup (ready.map fun j=>.str (tx j))) (sT tx pre (ready.foldl aX is) (rk pre is c) (p + ready.length) f (post.set c (.mlist []))):=by
 refine rU hW (by rw [hK];with_unfolding_all rfl) rfl (by rw [hK];with_unfolding_all rfl) rfl rfl rfl (names:=[Str.ofString "self"]) (df (vs1 fun _=>rfl)) (by decide +kernel) (by decide +kernel) (fun L=>?_)
 have hl':(ready.map fun j=>D.str (tx j)).length <= 10000:=by rw [length_map];omega
 refine ae (eM (b:=false) (cI (dj hW (bh hK) (ai (aa rfl rfl)) co b9 rfl (dY hK)) (ai cH) dM) (fun z=>nomatch z) (fun _=>ar)) ?_
 refine ae (aT hW (uT hW (uf hK rfl) (dj hW (bh hK) (ai (aa rfl rfl)) co b9 rfl (dY hK)) ((cF c).trans hc) hl') rfl) ?_
 refine ae (aT hW (fc hW hK (ai (aa rfl rfl))) rfl) ?_
 refine ae (dJ (nH hW (aa rfl rfl) rfl) (nu (fun q:Nat=>.str (tx q)) aX (fun is'=>sT tx pre is' (rk pre is c) p f post) (fun is'=>a9 N is' /\ is'.map (·.id) = is.map (·.id)) ready is (fun is' t ht hin=>?_) ⟨ok,rfl⟩) rfl) ?_
 ·obtain ⟨ok',hids⟩:=hin;obtain ⟨j,hj⟩:=Option.isSome_iff_exists.mp (hr t ht);have hj':ixI is' t = some j:=(rh hids t).trans hj;obtain ⟨i,hi,hid⟩:=cC hj';refine ⟨⟨sx ok' t,(kT is' t).trans hids⟩,_,_,ay hW rfl,?hb,fun _ _ e=>e⟩
  have e1:aX is' t = is'.set j { i with np:=-1 }:=by unfold aX;rw [hj'];simp only [eU,hi]
  refine ae (EX.nxtT (eK hW (dq hK) (iI hK) (ai (j4 hW (uM hK rfl))) (iu hW (ai (aa rfl rfl)) (ai (aa rfl rfl)) gH (kK hT ok' hj')) (bJ 1 hi (by decide)) (bJ 0 hi (by decide)) (by decide)) (Θ'':=sT tx pre (aX is' t) (rk pre is c) p f post) ?_) (ar.sub (bx (fun _ _ e=>e) (.inr rfl)))
  rw [e1];exact iY 1 _ hi (by decide) (i':={ i with np:=-1 }) rfl rfl
 have hlen:(ready.foldl aX is).length = is.length:=by
  have:∀ (l:List Nat) (js:List ao),(l.foldl aX js).length = js.length:=by
   intro l
   induction l with
   | nil=>intro js;rfl
   | cons x l ih=>intro js;rw [foldl_cons,ih,lf]
  exact this ready is
 have hrk:rk pre (ready.foldl aX is) c = rk pre is c:=by unfold rk;rw [hlen]
 rw [<- hrk];refine ae (dz ((uc hW (dj hW (bh hK) (ai (aa rfl rfl)) co b9 rfl (dY hK)) ((cF c).trans hc) hl').eqT (dC c _))) ?_
 refine ae (EX.nxtT (k7 (c:=p + ready.length) hW (bh hK) (ai (aa rfl rfl)) (ai (a7 hW (ck hK rfl) (af (aa rfl rfl) ak) (mL (by rw [length_map];omega)) rfl)) co b9 rfl (xc hK) (yx hK) (le_of_ble_eq_true rfl) (.inl ⟨rfl,by rw [length_map]⟩)) (fQ (p':=p + ready.length))) ?_
 exact aM (iU (ai (aa rfl rfl))) rfl
section
section
noncomputable def bq (st:List ao × List Nat) (s:Nat):List ao × List Nat:=match ixI st.1 s with
 | some k=>(match st.1[k]? with
  | some i=>(st.1.set k { i with np:=i.np - 1 },if i.np - 1 = 0 then st.2 ++ [s] else st.2)
  | none=>st)
 | none=>st
noncomputable def aS (is:List ao) (ready:List Nat) (t:Nat):List ao × List Nat:=match ixI is t with
 | some j=>(match is[j]? with
  | some i=>i.succ.foldl bq (is.set j { i with np:=-2 },ready)
  | none=>(is,ready))
 | none=>(is,ready)
theorem jI (st:List ao × List Nat) (s:Nat):(bq st s).1.map (·.id) = st.1.map (·.id):=by
 unfold bq
 cases h:ixI st.1 s with
 | none=>rfl
 | some k=>
  obtain ⟨i,hi,_⟩:=cC h;simp only [hi];exact nh hi rfl
theorem qe {is:List ao} {j:Nat} {i i':ao} (hj:is[j]? = some i) (hs:i'.succ = i.succ):(is.set j i').map (·.succ) = is.map (·.succ):=by
 have hlt:=(List.getElem?_eq_some_iff.mp hj).1;have hij:=(List.getElem?_eq_some_iff.mp hj).2;rw [map_set,hs,<- hij];apply ext_getElem?
 intro k;by_cases hk:j = k
 ·subst hk;rw [getElem?_set_self (by simpa using hlt)];simp [hlt]
 ·rw [getElem?_set_ne hk]
theorem oP (st:List ao × List Nat) (s:Nat):(bq st s).1.map (·.succ) = st.1.map (·.succ):=by
 unfold bq
 cases h:ixI st.1 s with
 | none=>rfl
 | some k=>
  obtain ⟨i,hi,_⟩:=cC h;simp only [hi];exact qe hi rfl
theorem qV {N:Nat} {st:List ao × List Nat} (ok:a9 N st.1) (s:Nat):a9 N (bq st s).1:=by
 unfold bq
 cases h:ixI st.1 s with
 | none=>exact ok
 | some k=>
  obtain ⟨i,hi,_⟩:=cC h;simp only [hi];exact ok.set hi rfl fun k hk=>ok.sl i (mem_of_getElem? hi) k hk
theorem nG (st:List ao × List Nat) (s:Nat):(bq st s).2.length <= st.2.length + 1:=by
 unfold bq
 cases h:ixI st.1 s with
 | none=>simp
 | some k=>
  obtain ⟨i,hi,_⟩:=cC h;simp only [hi];split
  ·simp
  ·simp
noncomputable def dT (tx:Nat->Str) (pre:List ac) (b0 j:Nat) (p f:Int) (post:List ac) (c:Nat) (st:List ao × List Nat) (k:Nat):List ac:=
 sT tx pre st.1 (.ref b0) p f (post.set c (.mlist (st.2.map fun j=>.str (tx j))) ++ [.mliter (pre.length + 3 + 3 * j + 2) k])
theorem rQ {l:List (List Nat)} {is:List ao} (h:is.map (·.succ) = l) {j:Nat} {s:List Nat} (e:l[j]? = some s):∃ i,is[j]? = some i /\ i.succ = s:=by
 rw [<- h,getElem?_map] at e;obtain ⟨i,h1,h2⟩:=Option.map_eq_some_iff.mp e;exact ⟨i,h1,h2⟩
theorem wC {post:List ac} {c:Nat} {o o' x:ac} (hc:c < post.length):(post.set c o ++ [x]).set c o' = post.set c o' ++ [x]:=by
 rw [set_append_left _ _ (by simpa using hc),set_set]
theorem oL {post:List ac} {c:Nat} {o x x':ac}:(post.set c o ++ [x]).set post.length x' = post.set c o ++ [x']:=by
 rw [set_append_right _ _ (by simp)];simp
section
variable {pre:List ac} {is0:List ao} {p:Int} {c:Nat}
theorem rj (hW:Wok W T) (hK:W.K = hd.heap_39 P) (hT:cY tx N) (hc:c < post.length) {succs:List Nat} {j:Nat} (hj:(is0.map (·.succ))[j]? = some succs) (hN:∀ s ∈ succs,(ixI is0 s).isSome = true)
  (hbody:∀ (st:List ao × List Nat) (k s:Nat),a9 N st.1->st.1.map (·.id) = is0.map (·.id)->s ∈ succs->st.2.length <= 5000->
   EX W T n env (upd μ "successor" (.str (tx s))) (dT tx pre (pre.length + 3 + 3 * is0.length + c) j p f post c st k) (execs body env) (.nxt μ (dT tx pre (pre.length + 3 + 3 * is0.length + c) j p f post c (bq st s) k)))
  (hsto:Sto env "successor" = true):∀ (rest:List Nat) (k:Nat) (st:List ao × List Nat),succs.drop k = rest->a9 N st.1->st.1.map (·.id) = is0.map (·.id)->st.1.map (·.succ) = is0.map (·.succ)->st.2.length + rest.length <= 5000->
  LT W T n env (.Name "successor" px) body (pre.length + 3 + 3 * is0.length + post.length) (rest.length) μ (dT tx pre (pre.length + 3 + 3 * is0.length + c) j p f post c st k)
   (.nxt μ (sT tx pre (rest.foldl bq st).1 (.ref (pre.length + 3 + 3 * is0.length + c)) p f (post.set c (.mlist ((rest.foldl bq st).2.map fun j=>.str (tx j))) ++ [.gone])))
 | [],k,st,hk,ok,hids,hsu,hl=>by
  have hlen:st.1.length = is0.length:=by have:=congrArg List.length hids;simpa using this
  obtain ⟨i,hi,hs⟩:=rQ hsu hj;have e1:(dT tx pre (pre.length + 3 + 3 * is0.length + c) j p f post c st k)[pre.length + 3 + 3 * is0.length + post.length]? = some (.mliter (pre.length + 3 + 3 * j + 2) k):=by
   unfold dT;rw [<- hlen,cF,getElem?_append_right (by simp)];simp
  have e2:(dT tx pre (pre.length + 3 + 3 * is0.length + c) j p f post c st k)[pre.length + 3 + 3 * j + 2]? = some (.mlist (succs.map fun j=>.str (tx j))):=by
   unfold dT;rw [bJ 2 hi (by decide),<- hs];rfl
  have hk':(succs.map fun j=>D.str (tx j))[k]? = none:=by
   rw [List.getElem?_eq_none_iff,length_map];have:=congrArg List.length hk;rw [length_drop] at this;simp at this;omega
  have:=ye (W:=W) (T:=T) hW e1 e2 hk';have e3:(dT tx pre (pre.length + 3 + 3 * is0.length + c) j p f post c st k).set (pre.length + 3 + 3 * is0.length + post.length) .gone = sT tx pre st.1 (.ref (pre.length + 3 + 3 * is0.length + c)) p f (post.set c (.mlist (st.2.map fun j=>.str (tx j))) ++ [.gone]):=by
   unfold dT;rw [<- hlen,dC,oL]
  rw [e3] at this;exact .done this
 | s :: rest,k,st,hk,ok,hids,hsu,hl=>by
  have hlen:st.1.length = is0.length:=by have:=congrArg List.length hids;simpa using this
  obtain ⟨i,hi,hs⟩:=rQ hsu hj;have e1:(dT tx pre (pre.length + 3 + 3 * is0.length + c) j p f post c st k)[pre.length + 3 + 3 * is0.length + post.length]? = some (.mliter (pre.length + 3 + 3 * j + 2) k):=by
   unfold dT;rw [<- hlen,cF,getElem?_append_right (by simp)];simp
  have e2:(dT tx pre (pre.length + 3 + 3 * is0.length + c) j p f post c st k)[pre.length + 3 + 3 * j + 2]? = some (.mlist (succs.map fun j=>.str (tx j))):=by
   unfold dT;rw [bJ 2 hi (by decide),<- hs];rfl
  obtain ⟨hks,hr⟩:=gF hk.symm;have hk':(succs.map fun j=>D.str (tx j))[k]? = some (.str (tx s)):=by rw [getElem?_map,hks];rfl
  have nx:=wB (W:=W) (T:=T) hW e1 e2 hk';have e3:(dT tx pre (pre.length + 3 + 3 * is0.length + c) j p f post c st k).set (pre.length + 3 + 3 * is0.length + post.length) (.mliter (pre.length + 3 + 3 * j + 2) (k + 1)) = dT tx pre (pre.length + 3 + 3 * is0.length + c) j p f post c st (k + 1):=by
   unfold dT;rw [<- hlen,dC,oL]
  rw [e3] at nx;have hl2:st.2.length + (rest.length + 1) <= 5000:=hl;have hrdy:=nG st s;refine .turn nx (ay hW hsto) (hbody st (k + 1) s ok hids (mem_of_getElem? hks) (by omega)) ?_
  exact rj hW hK hT hc hj hN hbody hsto rest (k + 1) (bq st s) hr.symm (qV ok s) ((jI st s).trans hids) ((oP st s).trans hsu) (by omega)
end
end
end
theorem td {pre:List ac} {r:D} {p:Int} {K:Nat} (hp:(pre.all fun o=>o.lo K) = true) (hr:r.lo K = true) (ho:(post.all fun o=>o.lo K) = true) (hK:pre.length + 3 + 3 * is.length <= K):((sT tx pre is r p f post).all fun o=>o.lo K) = true:=by
 have hk:∀ (is:List ao) (k:Nat),k + 3 * is.length <= K->((aC tx k is).all fun p=>p.2.lo K) = true /\ ((b7 tx k is).all fun o=>o.lo K) = true:=by
  intro is
  induction is with
  | nil=>intro k _;exact ⟨rfl,rfl⟩
  | cons i is ih=>
   intro k h;rw [length_cons] at h;obtain ⟨h1,h2⟩:=ih (k + 3) (by omega)
   have hL:D.loL K (i.succ.map fun j=>D.str (tx j)) = true:=by
    induction i.succ with
    | nil=>rfl
    | cons x l ihl=>rw [map_cons,D.loL,ihl];rfl
   refine ⟨?_,?_⟩
   ·rw [aC,all_cons,h1];simp [D.lo];omega
   ·rw [b7,all_append,h2,aW];simp only [all_cons,all_nil,Bool.and_true,ac.lo,hL,D.lo,Bool.true_and,Bool.and_eq_true,decide_eq_true_eq];omega
 obtain ⟨h1,h2⟩:=hk is (pre.length + 3) (by omega)
 unfold sT gO;rw [all_append,hp,all_append,ho,all_append,h2];simp only [all_cons,all_nil,Bool.and_true,Bool.true_and,ac.lo,h1,fw,D.lo,hr,Bool.and_eq_true,decide_eq_true_eq];omega
theorem TSM.eqb {b':Bool} (h:TSM W T n env μ Θ e b μ' Θ') (q:b = b'):TSM W T n env μ Θ e b' μ' Θ':=q ▸ h
theorem wT (hW:Wok W T) (hK:W.K = hd.heap_39 P) (hT:cY tx N) (pre:List ac) (is:List ao) (p f:Int) (post:List ac) (c:Nat) (ready:List Nat) (t j:Nat) (i:ao) (ok:a9 N is) (hc:post[c]? = some (.mlist (ready.map fun j=>.str (tx j))))
  (hj:ixI is t = some j) (hi:is[j]? = some i) (hnp:i.np = -1) (hs:∀ s ∈ i.succ,(ixI is s).isSome = true) (hl:ready.length + i.succ.length <= 5000)
  (hpl:(pre.all fun o=>o.lo (pre.length + 3 + 3 * is.length + post.length)) = true) (hol:(post.all fun o=>o.lo (pre.length + 3 + 3 * is.length + post.length)) = true) :
  FM W T 4 (.ref 162) [.ref (pre.length + 1),.str (tx t)] (sT tx pre is (rk pre is c) p f post) .none (sT tx pre (aS is ready t).1 (rk pre is c) p (f + 1) (post.set c (.mlist ((aS is ready t).2.map fun j=>.str (tx j))))):=by
 have hcl:c < post.length:=(List.getElem?_eq_some_iff.mp hc).1;have hids:i.id = t:=by obtain ⟨i',h1,h2⟩:=cC hj;rw [hi] at h1;cases h1;exact h2
 have hdone:aS is ready t = i.succ.foldl bq (is.set j { i with np:=-2 },ready):=by unfold aS;rw [hj];simp only [hi]
 have hdlen:∀ (l:List Nat) (st:List ao × List Nat),(l.foldl bq st).1.length = st.1.length:=by
  intro l
  induction l with
  | nil=>intro st;rfl
  | cons x l ih=>intro st;rw [foldl_cons,ih];have:=congrArg List.length (jI st x);simpa using this
 have hlen:(aS is ready t).1.length = is.length:=by rw [hdone,hdlen];simp
 refine FM.trunc (G:=[.gone]) (Θ':=sT tx pre (aS is ready t).1 (rk pre is c) p (f + 1) (post.set c (.mlist ((aS is ready t).2.map fun j=>.str (tx j))))) ?_ ?_ rfl (by rw [dF,dF,hlen];simp)
 ·rw [gR];refine kN hW (by rw [hK];with_unfolding_all rfl) rfl (by rw [hK];with_unfolding_all rfl) rfl rfl rfl (names:=[Str.ofString "self",Str.ofString "nodes"])
   (qO (x := "nodes") (d1:=[.ref (pre.length + 1)]) (ds:=[.str (tx t)]) hW (fun more=>vs1 fun _=>?_) (le_of_ble_eq_true rfl)) (by decide +kernel) (by decide +kernel) (fun L=>?_)
  ·unfold bindArgs;simp only [Option.isNone_some,Bool.and_false,Bool.false_eq_true,if_false];with_unfolding_all rfl
  refine ae (eM (b:=false) (cI (dj hW (bh hK) (ai (aa rfl rfl)) co b9 rfl (dY hK)) (ai cH) dM) (fun z=>nomatch z) (fun _=>ar)) ?_
  refine ae (aT hW (fc hW hK (ai (aa rfl rfl))) rfl) ?_
  refine ae (dJ (nH hW (aa rfl rfl) rfl) (.cons (μ2:=oZ) (ay hW rfl) ?_ .nil) rfl) iN
  have hlook:=kK (k:=pre.length + 3) hT ok hj;refine ae (eM (b:=false) (cI (ja hW (EVM.eqd (ll hW (ai (aa rfl rfl)) (ai (aa rfl rfl)) gH gH) (congrArg (fun x=>x.getD D.none) hlook)) rfl) (ai cH) dM) (fun z=>nomatch z) (fun _=>ar)) ?_
  refine ae (aT hW (fH hW (dq hK) (iI hK) (ai (aa rfl rfl)) (bJ 1 hi (by decide)) (bJ 0 hi (by decide)) rfl) rfl) ?_
  refine ae (eM (b:=false) ((cI (ai (aa rfl rfl)) (ai (j4 hW (uM hK rfl))) jx).eqb (by rw [hnp];rfl)) (fun z=>nomatch z) (fun _=>ar)) ?_
  refine ae (EX.nxtT (eK hW (dq hK) (iI hK) (ai (j4 hW (xV hK rfl))) (ai (aa rfl rfl)) (bJ 1 hi (by decide)) (bJ 0 hi (by decide)) (by decide)) (iY 1 _ hi (by decide) (i':={ i with np:=-2 }) rfl rfl)) ?_
  have hj2:(is.set j { i with np:=-2 })[j]? = some { i with np:=-2 }:=by rw [getElem?_set_self (List.getElem?_eq_some_iff.mp hi).1]
  have hids2:(is.set j { i with np:=-2 }).map (·.id) = is.map (·.id):=nh hi rfl
  have hsuc2:(is.set j { i with np:=-2 }).map (·.succ) = is.map (·.succ):=qe hi rfl
  have ok2:a9 N (is.set j { i with np:=-2 }):=ok.set hi rfl fun k hk=>ok.sl i (mem_of_getElem? hi) k hk
  have hpost:post.set c (.mlist (ready.map fun j=>.str (tx j))) = post:=by
   apply ext_getElem?
   intro k;by_cases hk:c = k
   ·subst hk;rw [getElem?_set_self hcl,hc]
   ·rw [getElem?_set_ne hk]
  have hst:sT tx pre (is.set j { i with np:=-2 }) (rk pre is c) p f post ++ [.mliter (pre.length + 3 + 3 * j + 2) 0] = dT tx pre (pre.length + 3 + 3 * is.length + c) j p f post c (is.set j { i with np:=-2 },ready) 0:=by
   rw [gR];unfold dT;rw [hpost]
  have hki:(sT tx pre (is.set j { i with np:=-2 }) (rk pre is c) p f post).length = pre.length + 3 + 3 * is.length + post.length:=by rw [dF,List.length_set]
  have mk:=vJ (W:=W) (T:=T) (Θ:=sT tx pre (is.set j { i with np:=-2 }) (rk pre is c) p f post) (li:=pre.length + 3 + 3 * j + 2) hW (bJ 2 hj2 (by decide))
  rw [hst,hki] at mk;refine ae (xz hW (fH hW (dq hK) (lS hK) (ai (aa rfl rfl)) (bJ 1 hj2 (by decide)) (bJ 0 hj2 (by decide)) rfl) mk (rj (is0:=is) (succs:=i.succ) hW hK hT hcl (by rw [getElem?_map,hi];rfl) hs ?hbody rfl i.succ 0 (is.set j { i with np:=-2 },ready) rfl ok2 hids2 hsuc2 hl) rfl) ?_
  case hbody=>
   intro st k s oks hidss hsm hrl;have hlens:st.1.length = is.length:=by have:=congrArg List.length hidss;simpa using this
   obtain ⟨m,hm⟩:=Option.isSome_iff_exists.mp (hs s hsm);have hm':ixI st.1 s = some m:=(rh hidss s).trans hm;obtain ⟨im,him,hidm⟩:=cC hm';have e1:bq st s = (st.1.set m { im with np:=im.np - 1 },if im.np - 1 = 0 then st.2 ++ [s] else st.2):=by unfold bq;rw [hm'];simp only [him]
   have him2:(st.1.set m { im with np:=im.np - 1 })[m]? = some { im with np:=im.np - 1 }:=by rw [getElem?_set_self (List.getElem?_eq_some_iff.mp him).1]
   refine ae (aT hW (iu hW (ai (aa rfl rfl)) (ai (aa rfl rfl)) gH (kK hT oks hm')) rfl) ?_
   refine ae (EX.nxtT (lg (c:=im.np - 1) hW (dq hK) (iI hK) (ai (aa rfl rfl)) (ai aq) (bJ 1 him (by decide)) (bJ 0 him (by decide)) (by decide) rfl (.inr ⟨rfl,rfl⟩)) (iY 1 _ him (by decide) (i':={ im with np:=im.np - 1 }) rfl rfl)) ?_
   rw [e1];have hl2:(st.1.set m { im with np:=im.np - 1 }).length = is.length:=by rw [List.length_set];exact hlens
   have hget:∀ X:ac,(sT tx pre (st.1.set m { im with np:=im.np - 1 }) (.ref (pre.length + 3 + 3 * is.length + c)) p f (post.set c X ++ [.mliter (pre.length + 3 + 3 * j + 2) k]))[pre.length + 3 + 3 * is.length + c]? = some X:=fun X=>by
    rw [<- hl2,cF,List.getElem?_append_left (by simpa using hcl),getElem?_set_self hcl]
   have hset:∀ X Y:ac,(sT tx pre (st.1.set m { im with np:=im.np - 1 }) (.ref (pre.length + 3 + 3 * is.length + c)) p f (post.set c X ++ [.mliter (pre.length + 3 + 3 * j + 2) k])).set (pre.length + 3 + 3 * is.length + c) Y = sT tx pre (st.1.set m { im with np:=im.np - 1 }) (.ref (pre.length + 3 + 3 * is.length + c)) p f (post.set c Y ++ [.mliter (pre.length + 3 + 3 * j + 2) k]):=fun X Y=>by
    rw [<- hl2,dC,wC hcl]
   have hap:(st.2.map fun j=>D.str (tx j)) ++ [.str (tx s)] = (st.2 ++ [s]).map fun j=>D.str (tx j):=by simp
   by_cases hz:im.np - 1 = 0
   ·rw [if_pos hz];refine ae (eM (b:=true) ((cI (fH hW (dq hK) (iI hK) (ai (aa rfl rfl)) (bJ 1 him2 (by decide)) (bJ 0 him2 (by decide)) rfl) (ai aq) dE).eqb (by rw [hz];rfl))
     (fun _=>ae (EX.nxtT (dz (fq (ds:=st.2.map fun j=>.str (tx j)) (ds0:=st.2.map fun j=>.str (tx j)) hW (dj hW (bh hK) (ai (aa rfl rfl)) co b9 rfl (dY hK)) (ai (aa rfl rfl)) (hget _) (hget _) (by rw [length_map];omega)))
      (Θ'':=dT tx pre (pre.length + 3 + 3 * is.length + c) j p f post c (st.1.set m { im with np:=im.np - 1 },st.2 ++ [s]) k) ((hset _ _).trans (by unfold dT;rw [hap]))) ar) (fun z=>nomatch z)) (ar.sub (bx (bx (fun _ _ e=>e) (.inr rfl)) (.inr rfl)))
   ·rw [if_neg hz];exact ae (eM (b:=false) ((cI (fH hW (dq hK) (iI hK) (ai (aa rfl rfl)) (bJ 1 him2 (by decide)) (bJ 0 him2 (by decide)) rfl) (ai aq) dE).eqb (by simpa using hz)) (fun z=>nomatch z) (fun _=>ar)) (ar.sub (bx (bx (fun _ _ e=>e) (.inr rfl)) (.inr rfl)))
  rw [<- hdone];exact ae (EX.nxtT (k7 (c:=f + 1) hW (bh hK) (ai (aa rfl rfl)) (ai aq) co b9 rfl (yq hK) (za hK) (le_of_ble_eq_true rfl) (.inl ⟨rfl,rfl⟩)) (fQ (f':=f + 1))) iN
 ·have hpl':(sT tx pre (aS is ready t).1 (rk pre is c) p (f + 1) (post.set c (.mlist ((aS is ready t).2.map fun j=>.str (tx j))))).length = pre.length + 3 + 3 * is.length + post.length:=by rw [dF,hlen];simp
  rw [hpl'];refine td hpl (by simp [D.lo];omega) ?_ (by rw [hlen];omega)
  rw [List.all_eq_true] at hol ⊢;intro x hx;rcases mem_or_eq_of_mem_set hx with h | h
  ·exact hol x h
  ·rw [h];show D.loL _ _ = true
   induction (aS is ready t).2 with
   | nil=>rfl
   | cons y l ih=>rw [map_cons,D.loL,ih];rfl
section
open Builtin Builtin.ObjectAttr
variable {out:List Env} {j0:Nat}
structure Kn (A:Around) (env:Env) (out:List Env) (j0:Nat) (O:List Addr):Prop where
 frames:A.frames = some (env :: out)
 own:O[j0]? = some env.locals
theorem Kn.ext {A:Around} {h:Heap} {O O':List Addr} (k:Kn A env out j0 O) (x:Ext h O O'):Kn A env out j0 O':=⟨k.frames,x.pre _ _ k.own⟩
structure EXA (W:Wd) (T:Heap->Prop) (n:Nat) (env:Env) (out:List Env) (j0:Nat) (μ:Str->Option D) (Θ:List ac) (c:Sem Flow) (o:Out):Prop where
 of ::
 run:∀ (A:Around) (s:Shared) (vm:Str->Option Value) (O:List Addr),aL n A->Kn A env out j0 O->0 <= s.toks->Rp W T env Nox μ Θ s.heap vm O->
  ∀ (Q:Flow->Shared->Prop) (E:Value->Shared->Prop),(∀ f h' tk,s.toks <= tk->ju W T env Nox s.heap O Θ o f h'->Q f { s with heap:=h',toks:=tk })->wpAny (model W.prog W.w) A c Q E s
theorem EX.a {c:Sem Flow} (h:EX W T n env μ Θ c o):EXA W T n env out j0 μ Θ c o:=.of fun A s vm O r _ t R Q E q=>h.run A s vm O _ r t R Q E q
theorem aE {st:Stmt} {rest:List Stmt} (h1:EXA W T n env out j0 μ Θ (exec st env) (.nxt μ' Θ')) (h2:EXA W T n env out j0 μ' Θ' (execs rest env) o):EXA W T n env out j0 μ Θ (execs (st :: rest) env) o:=by
 refine .of ?_;intro A s vm O r kn t R Q E q;refine wpAny_execs_cons (h1.run A s vm O r kn t R _ _ fun f h' tk le p=>?_)
 obtain ⟨rfl,vm',O',R',x⟩:=p;exact h2.run A _ vm' O' r (kn.ext x.ext) (Nat.le_trans t le) R' Q E fun f h'' tk' le' p'=>q f h'' tk' (Nat.le_trans le le') (p'.after R.len x)
theorem bn {st:Stmt} {rest:List Stmt} (h1:EXA W T n env out j0 μ Θ (exec st env) o) (hs:o.stops = true):EXA W T n env out j0 μ Θ (execs (st :: rest) env) o:=by
 refine .of ?_;intro A s vm O r kn t R Q E q;refine wpAny_execs_cons (h1.run A s vm O r kn t R _ _ fun f h' tk le p=>?_)
 have q':=q f h' tk le p
 cases o with
 | nxt=>cases hs
 | brk=>obtain ⟨rfl,_⟩:=p;exact q'
 | cont=>obtain ⟨rfl,_⟩:=p;exact q'
 | ret=>obtain ⟨v,_,rfl,_⟩:=p;exact q'
theorem d8 {test:Expr} {body orelse:List Stmt} {pos:Pos} {b:Bool} (ht:TSM W T n env μ Θ test b μ' Θ')
  (h1:b = true->EXA W T n env out j0 μ' Θ' (execs body env) o) (h2:b = false->EXA W T n env out j0 μ' Θ' (execs orelse env) o):EXA W T n env out j0 μ Θ (exec (.If test body orelse pos) env) o:=by
 refine .of ?_;intro A s vm O r kn t R Q E q;refine wpAny_If (ht.run A s vm O _ r t R _ _ fun h' tk vm' O' le R' x=>?_)
 cases b with
 | true=>exact (h1 rfl).run A _ vm' O' r (kn.ext x.ext) (Nat.le_trans t le) R' Q E fun f h'' tk' le' p=>q f h'' tk' (Nat.le_trans le le') (p.after R.len x)
 | false=>exact (h2 rfl).run A _ vm' O' r (kn.ext x.ext) (Nat.le_trans t le) R' Q E fun f h'' tk' le' p=>q f h'' tk' (Nat.le_trans le le') (p.after R.len x)
theorem gL {prog:Program} {w:World} {A:Around} {s:Shared} {R:Result->Shared->Prop} {test:Expr} {body orelse:List Stmt} {env:Env}
  (h:wpAny (model prog w) A (isTrue test env (eval test env)) (fun b sB=>
    if b then wpAny (model prog w) A (execs body env) (fun f sC=>match f with
      | .next | .cont=>codeAny (model prog w) A (.whileLoop test body orelse env) R sC
      | .brk=>R (.ok .next) sC
      | .ret v=>R (.ok (.ret v)) sC) (notedBy (model prog w) A env fun e s'=>R (.error e) s') sB
    else wpAny (model prog w) A (execs orelse env) (fun f sC=>R (.ok f) sC) (notedBy (model prog w) A env fun e s'=>R (.error e) s') sB)
    (notedBy (model prog w) A env fun e s'=>R (.error e) s') s):codeAny (model prog w) A (.whileLoop test body orelse env) R s:=by
 refine codeAny_of_tree ?_
 show wpAny _ A ((whileTurn test body orelse env).onRaise (fun x=>do noteFrame x env;theTreesLotGoes x)) _ _ s
 refine wpAny_noted ?_
 unfold whileTurn;refine wpAny_bind (wpAny_mono h (fun b sB hJ=>?_) fun _ _ h'=>h')
 cases b with
 | false=>exact wpAny_bind (wpAny_mono hJ (fun f sC h3a=>wpAny_pure h3a) fun _ _ h'=>h')
 | true=>exact wpAny_bind (wpAny_mono hJ (fun f sC h3a=>match f,h3a with
   | .next,h3a=>wpAny_pure ⟨rfl,h3a⟩
   | .cont,h3a=>wpAny_pure ⟨rfl,h3a⟩
   | .brk,h3a=>wpAny_pure h3a
   | .ret _,h3a=>wpAny_pure h3a) fun _ _ h'=>h')
inductive WHA (W:Wd) (T:Heap->Prop) (n:Nat) (env:Env) (out:List Env) (j0:Nat) (test:Expr) (body orelse:List Stmt):Nat->(Str->Option D)->List ac->Out->Prop where
 | stop {k:Nat} {μ μ':Str->Option D} {Θ Θ':List ac} {o:Out}:TSM W T n env μ Θ test false μ' Θ'->EXA W T n env out j0 μ' Θ' (execs orelse env) o->WHA W T n env out j0 test body orelse k μ Θ o
 | turn {k:Nat} {μ μ1 μ2:Str->Option D} {Θ Θ1 Θ2:List ac} {o:Out}:TSM W T n env μ Θ test true μ1 Θ1->EXA W T n env out j0 μ1 Θ1 (execs body env) (.nxt μ2 Θ2)->WHA W T n env out j0 test body orelse k μ2 Θ2 o->WHA W T n env out j0 test body orelse (k + 1) μ Θ o
 | brk {k:Nat} {μ μ1 μ2:Str->Option D} {Θ Θ1 Θ2:List ac}:TSM W T n env μ Θ test true μ1 Θ1->EXA W T n env out j0 μ1 Θ1 (execs body env) (.brk μ2 Θ2)->WHA W T n env out j0 test body orelse k μ Θ (.nxt μ2 Θ2)
 | ret {k:Nat} {μ μ1:Str->Option D} {Θ Θ1 Θ2:List ac} {d:D}:TSM W T n env μ Θ test true μ1 Θ1->EXA W T n env out j0 μ1 Θ1 (execs body env) (.ret d Θ2)->WHA W T n env out j0 test body orelse k μ Θ (.ret d Θ2)
theorem r7 {A:Around} {h0a:Heap} {O0:List Addr} {Θ0:List ac} {test:Expr} {body orelse:List Stmt} {k:Nat} {R':Result->Shared->Prop} (r:aL n A) (lO:O0.length = Θ0.length) (h:WHA W T n env out j0 test body orelse k μ Θ o) {s:Shared} {vm:Str->Option Value} {O:List Addr} (t:0 <= s.toks) (kn:Kn A env out j0 O)
  (R:Rp W T env Nox μ Θ s.heap vm O) (x:Nx W (Fx env) h0a O0 Θ0 s.heap O Θ) (q:∀ f h' tk,s.toks <= tk->ju W T env Nox h0a O0 Θ0 o f h'->R' (.ok f) { s with heap:=h',toks:=tk }):codeAny (model W.prog W.w) A (.whileLoop test body orelse env) R' s:=by
 induction h generalizing s vm O with
 | stop ht he=>
  refine gL (ht.run A _ vm O Nox r t R _ _ fun h1a tA vm1 O1 lA R1 xA=>?_)
  exact he.run A _ vm1 O1 r (kn.ext xA.ext) (Nat.le_trans t lA) R1 _ _ fun f hJ tJ lB p=>q f hJ tJ (Nat.le_trans lA lB) (p.after lO (x.trans xA lO))
 | turn ht hb hw ih=>
  refine gL (ht.run A _ vm O Nox r t R _ _ fun h1a tA vm1 O1 lA R1 xA=>?_)
  refine hb.run A _ vm1 O1 r (kn.ext xA.ext) (Nat.le_trans t lA) R1 _ _ fun f hJ tJ lB p=>?_
  obtain ⟨rfl,vm2,O2,R2,x2⟩:=p;have l12:=Nat.le_trans lA lB;exact ih (s:={ s with heap:=hJ,toks:=tJ }) (Nat.le_trans t l12) ((kn.ext xA.ext).ext x2.ext) R2 ((x.trans xA lO).trans x2 lO) fun f h' tk l p=>q f h' tk (Nat.le_trans l12 l) p
 | brk ht hb=>
  refine gL (ht.run A _ vm O Nox r t R _ _ fun h1a tA vm1 O1 lA R1 xA=>?_)
  refine hb.run A _ vm1 O1 r (kn.ext xA.ext) (Nat.le_trans t lA) R1 _ _ fun f hJ tJ lB p=>?_
  obtain ⟨rfl,vm2,O2,R2,x2⟩:=p;exact q .next hJ tJ (Nat.le_trans lA lB) ⟨rfl,vm2,O2,R2,(x.trans xA lO).trans x2 lO⟩
 | ret ht hb=>
  refine gL (ht.run A _ vm O Nox r t R _ _ fun h1a tA vm1 O1 lA R1 xA=>?_)
  refine hb.run A _ vm1 O1 r (kn.ext xA.ext) (Nat.le_trans t lA) R1 _ _ fun f hJ tJ lB p=>?_
  obtain ⟨v,O2,rfl,R2,dv,x2⟩:=p;exact q (.ret v) hJ tJ (Nat.le_trans lA lB) ⟨v,O2,rfl,R2,dv,(x.trans xA lO).trans x2 lO⟩
theorem iq {test:Expr} {body orelse:List Stmt} {pos:Pos} {k:Nat} (h:WHA W T n env out j0 test body orelse k μ Θ o):EXA W T n env out j0 μ Θ (exec (.While test body orelse pos) env) o:=
 .of fun A s vm O r kn t R Q E q=>wpAny_While (r7 r R.len h t kn R (.refl ..) q)
noncomputable abbrev LTA (W:Wd) (T:Heap->Prop) (n:Nat) (env:Env) (out:List Env) (j0:Nat) (tgt:Expr) (body:List Stmt) (i:Nat):Nat->(Str->Option D)->List ac->Out->Prop:=LTG W T n env tgt i fun μ Θ o=>EXA W T n env out j0 μ Θ (execs body env) o
theorem wV (hW:Wok W T) {tgt iter:Expr} {body:List Stmt} {pos:Pos} {d:D} {i k:Nat} (he:EVM W T n env μ Θ (eval iter env) d μ' Θ') (hm:MKI W T d Θ' i Θ'') (hl:LTA W T n env out j0 tgt body i k μ' Θ'' o) (ht:b8 tgt) (hs:autoParam (∀ x,foldedSetIterable iter env x = pure x) r1T) :
  EXA W T n env out j0 μ Θ (exec (.For tgt iter body [] pos) env) o:=by
 refine .of ?_;intro A s vm O r kn t R Q E q;refine wpAny_For (he.run A s vm O Nox r t R _ _ fun v h1a tA vm1 O1 lA R1 xA dA=>?_) hs
 refine hm.run A { s with heap:=h1a,toks:=tA } O1 Nox v r.handled R1.toRpH dA _ _ fun v hJ tJ O2 lB R2 x2 dB=>?_
 induction dB using rE with
 | ref ha=>
 have l12:=Nat.le_trans lA lB;exact og (K:=Kn A env out j0) r ht (fun _ _ pre k=>⟨k.frames,pre _ _ k.own⟩) (fun _ _ _ hb s vm O kn t R Q E q=>hb.run A s vm O r kn t R Q E q) R.len hl (Nat.le_trans t l12) ((kn.ext xA.ext).ext x2.ext) ha (R1.called R2 x2) (xA.trans (x2.wide (X:=Fx env)) R.len) fun f h' tk l p=>q f h' tk (Nat.le_trans l12 l) p
end
section
open Builtin Builtin.ObjectAttr
theorem Den.more (hm:∀ a,M' a->M a \/ ∀ o xs n,h.get? a = some o->o.data ≠ .seq xs n) {v:Value} {d:D} (x:Den h O M v d):Den h O M' v d:=
 x.tr (p:=fun _=>true) (pl:=fun _=>true) (fun _ _=>rfl) (fun _ _=>rfl) (fun _ _ _=>⟨rfl,rfl⟩) (fun a o xs n q e r=>⟨e,fun m=>(hm a m).elim q fun z=>z o xs n e r⟩) (fun _ _ _ e=>e) rfl
theorem am.more (hm:∀ a,M' a->M a \/ ∀ o xs n,h.get? a = some o->o.data ≠ .seq xs n) {vs:List Value} {ds:List D} (x:am h O M vs ds):am h O M' vs ds:=
 x.tr (p:=fun _=>true) (pl:=fun _=>true) (fun _ _=>rfl) (fun _ _=>rfl) (fun _ _ _=>⟨rfl,rfl⟩) (fun a o xs n q e r=>⟨e,fun m=>(hm a m).elim q fun z=>z o xs n e r⟩) (fun _ _ _ e=>e) rfl
theorem nT (hm:∀ a,M' a->M a \/ ∀ o xs n,h.get? a = some o->o.data ≠ .seq xs n) {v:Option Value} {d:Option D} (x:fj h O M v d):fj h O M' v d:=by
 cases x with
 | none=>exact .none
 | some y=>exact .some (y.more hm)
theorem Obs.more {W:Wd} {a:Addr} {o:ac} (hm:∀ a,M' a->M a \/ ∀ o xs n,h.get? a = some o->o.data ≠ .seq xs n) (x:Obs W h O M a o):Obs W h O M' a o:=by
 cases o with
 | gone=>exact trivial
 | mlist ds=>obtain ⟨vs,pl,y⟩:=x;exact ⟨vs,pl,y.more hm⟩
 | mns m=>obtain ⟨vm,hn,y⟩:=x;exact ⟨vm,hn,fun x=>nT hm (y x)⟩
 | minst C j ss=>
  obtain ⟨dx,vs,e,e2,y⟩:=x;refine ⟨dx,vs,e,e2,?_⟩
  clear e
  induction y with
  | nil=>exact .nil
  | cons z _ ih=>exact .cons (nT hm z) ih
 | mdict kvs ep=>
  obtain ⟨vk,eZ,D0,r,y⟩:=x;refine ⟨vk,eZ,D0,r,?_⟩
  clear D0
  induction y with
  | nil=>exact .nil
  | cons z _ ih=>exact .cons (z.more hm) ih
 | mset ks=>exact x
 | mliter i k=>exact x
 | mkiter i k n ep=>exact x
 | mwrap i=>exact x
 | mframe env m=>exact x
variable {out:List Env} {j0:Nat}
theorem RpH.forget {M0:Addr->Prop} {h:Heap} {O:List Addr} (R:RpH W T M0 Θ h O) (i:Nat):RpH W T M0 (Θ.set i .gone) h O:=by
 have lv:∀ b,bf O (Θ.set i .gone) b->bf O Θ b:=fun b ⟨j,ob,h1,h2,h3⟩=>by
  by_cases hj:i = j
  ·subst hj;have hl:=(List.getElem?_eq_some_iff.mp h2).1;rw [getElem?_set_self (by simpa using hl)] at h2;cases h2;exact absurd rfl h3
  ·rw [getElem?_set_ne hj] at h2;exact ⟨j,ob,h1,h2,h3⟩
 refine ⟨R.gd,R.live,by simp [R.len],R.nd,R.apart,R.above,R.there,fun j b ob h1 h2=>?_⟩
 by_cases hj:i = j
 ·subst hj;have hl:=(List.getElem?_eq_some_iff.mp h2).1;rw [getElem?_set_self (by simpa using hl)] at h2;cases h2;exact trivial
 ·rw [getElem?_set_ne hj] at h2;exact (R.obs j b ob h1 h2).more fun a m=>.inl (m.imp id (lv a))
theorem Rp.own {h:Heap} {vm:Str->Option Value} {O:List Addr} (R:Rp W T env Nox μ Θ h vm O) (ho:O[j0]? = some env.locals) (hg:Θ[j0]? = some .gone) (hf:env.frame = some env.locals) :
  ∃ m,(∀ x,env.kindOf x = some .local->m x = vm x) /\ RpH W T Nox (Θ.set j0 (.mframe env m)) h O /\ (∀ a,Mx Nox O (Θ.set j0 (.mframe env m)) a->Mx Nox O Θ a \/ ∀ o xs n,h.get? a = some o->o.data ≠ .seq xs n) /\ (∀ a,bf O (Θ.set j0 (.mframe env m)) a->bf O Θ a \/ a = env.locals):=by
 obtain ⟨m,hns,hm⟩:=R.fm.loc;have hlt:=(List.getElem?_eq_some_iff.mp hg).1;have lv:∀ a,bf O (Θ.set j0 (.mframe env m)) a->bf O Θ a \/ a = env.locals:=fun a ⟨j,ob,h1,h2,h3⟩=>by
  by_cases hj:j0 = j
  ·subst hj;rw [ho] at h1;cases h1;exact .inr rfl
  ·rw [getElem?_set_ne hj] at h2;exact .inl ⟨j,ob,h1,h2,h3⟩
 have hm':∀ a,Mx Nox O (Θ.set j0 (.mframe env m)) a->Mx Nox O Θ a \/ ∀ o xs n,h.get? a = some o->o.data ≠ .seq xs n:=fun a mm=>by
  rcases mm with mm | l
  ·exact .inl (.inl mm)
  ·rcases lv a l with l | rfl
   ·exact .inl (.inr l)
   ·refine .inr fun o xs k e q=>?_
    obtain ⟨o',e',hd⟩:=R.fm.at_fx (.inl rfl);rw [e] at e';cases e';exact hd xs k q
 refine ⟨m,hm,⟨R.gd,R.live,by simp [R.len],R.nd,R.apart,R.above,R.there,fun j b ob h1 h2=>?_⟩,hm',lv⟩
 by_cases hj:j0 = j
 ·subst hj;rw [ho] at h1;cases h1;simp [hlt] at h2;subst h2
  exact ⟨hf,R.fm.kind,hns⟩
 ·rw [getElem?_set_ne hj] at h2;exact (R.obs j b ob h1 h2).more hm'
theorem Rp.back {h h':Heap} {vm:Str->Option Value} {O O':List Addr} {m:Str->Option Value} (R:Rp W T env Nox μ Θ h vm O) (ho:O[j0]? = some env.locals) (hg:Θ[j0]? = some .gone) (hg':Θ'[j0]? = some .gone) (hm:∀ x,env.kindOf x = some .local->m x = vm x)
  (mx:∀ a,Mx Nox O (Θ.set j0 (.mframe env m)) a->Mx Nox O Θ a \/ ∀ o xs n,h.get? a = some o->o.data ≠ .seq xs n) (lv:∀ a,bf O (Θ.set j0 (.mframe env m)) a->bf O Θ a \/ a = env.locals)
  (R1:RpH W T Nox (Θ.set j0 (.mframe env m)) h O) (R':RpH W T Nox (Θ'.set j0 (.mframe env m)) h' O') (x:Nx W Nox h O (Θ.set j0 (.mframe env m)) h' O' (Θ'.set j0 (.mframe env m))) :
  Rp W T env Nox μ Θ' h' vm O' /\ Nx W (Fx env) h O Θ h' O' Θ':=by
 have hlt':=(List.getElem?_eq_some_iff.mp hg').1;have ho':=x.ext.pre _ _ ho;have e':(Θ'.set j0 (.mframe env m)).set j0 .gone = Θ':=by
  rw [set_set];apply ext_getElem?
  intro k;by_cases hk:j0 = k
  ·subst hk;rw [getElem?_set_self hlt',hg']
  ·rw [getElem?_set_ne hk]
 have Rf:=R'.forget j0;rw [e'] at Rf;obtain ⟨_,_,hns'⟩:=R'.obs j0 _ _ ho' (by rw [getElem?_set_self hlt'])
 have lt':∀ i:Nat,Θ[i]? = some ac.gone->Θ'[i]? = some ac.gone:=fun i e=>by
  by_cases hi:j0 = i
  ·subst hi;exact hg'
  ·have:=x.later.gone i (by rw [getElem?_set_ne hi];exact e)
   rw [getElem?_set_ne hi] at this;exact this
 have nx:Nx W (Fx env) h O Θ h' O' Θ':=⟨fun a ob ht z e=>x.kp a ob ht (fun q=>q.elim False.elim fun l=>(lv a l).elim (fun l=>z (.inr l)) fun q=>z (.inl (.inl q))) e,x.ext,x.grow,⟨by have:=x.later.len;simpa using this,lt'⟩⟩
 have nlive:∀ y c,env.cells.lookup y = some c->¬ bf O (Θ.set j0 (.mframe env m)) c:=fun y c e l=>(lv c l).elim (fun l=>R.sep c l (.inr ⟨y,e⟩)) (R.fm.cell_ne e)
 refine ⟨{ Rf with fm:=?_,vars:=fun y d e=>?_,sep:=fun a l f=>?_ },nx⟩
 ·have F:=R.fm;refine ⟨F.kind,F.glob,F.blt,⟨m,hns',hm⟩,fun y c e=>?_,F.apart,F.above,F.nocell⟩
  obtain ⟨ob,ho,hd⟩:=F.cell y c e;exact ⟨ob,x.kp c ob (R.gd.ne_tab ho (nf hd rfl)) (fun q=>q.elim False.elim (nlive y c e)) ho,hd⟩
 ·obtain ⟨v,a,b⟩:=R.vars y d e;have bA:=(b.more mx).nxH R1 x;refine ⟨v,a,bA.more fun c mm=>.inl (mm.imp id fun ⟨j,ob,h1,h2,h3⟩=>?_)⟩
  refine ⟨j,ob,h1,?_,h3⟩
  by_cases hj:j0 = j
  ·subst hj;rw [hg'] at h2;cases h2;exact absurd rfl h3
  ·rw [getElem?_set_ne hj];exact h2
 ·obtain ⟨ob,e,_⟩:=R.fm.at_fx f;exact R.sep a (gu nx.ext R.len nx.later l (by rw [e];rfl)) f
end
section
open Builtin Builtin.ObjectAttr
variable {out:List Env} {j0:Nat}
structure EVA (W:Wd) (T:Heap->Prop) (n:Nat) (env:Env) (out:List Env) (j0:Nat) (μ:Str->Option D) (Θ:List ac) (c:Sem Value) (d:D) (μ':Str->Option D) (Θ':List ac):Prop where
 of ::
 run:∀ (A:Around) (s:Shared) (vm:Str->Option Value) (O:List Addr),aL n A->Kn A env out j0 O->0 <= s.toks->Rp W T env Nox μ Θ s.heap vm O->
  ∀ (Q E:Value->Shared->Prop),(∀ v h' tk vm' O',s.toks <= tk->Rp W T env Nox μ' Θ' h' vm' O'->Nx W (Fx env) s.heap O Θ h' O' Θ'->Den h' O' (Mx Nox O' Θ') v d->Q v { s with heap:=h',toks:=tk })->wpAny (model W.prog W.w) A c Q E s
theorem jo (hW:Wok W T) {x:Str} {px:Pos} {e:Expr} {pos:Pos} {d:D} (he:EVA W T n env out j0 μ Θ (eval e env) d μ' Θ') (hk:Sto env x = true) (hs:autoParam (swapsWith e (some (.Name x px)) pos.line env = pure false) rfT) :
  EXA W T n env out j0 μ Θ (exec (.Assign [.Name x px] e pos) env) (.nxt (upd μ' x d) Θ'):=by
 refine .of ?_;intro A s vm O r kn t R Q E q;refine wpAny_Assign_Name (he.run A s vm O r kn t R _ _ fun v h1a tA vm1 O1 lA R1 xA dv=>?_) hs
 refine bV R1.fm hk fun b h' tk lB fs sb F'=>?_
 have fb:Fx env b:=fs.elim (fun q=>.inl q.2) fun q=>.inr ⟨x,q.2⟩
 obtain ⟨R2,x2⟩:=R1.stored hW fb sb F' dv;exact q _ h' tk (Nat.le_trans lA lB) ⟨rfl,_,O1,R2,xA.trans x2 R.len⟩
theorem v5 {e:Expr} {pos:Pos} {d:D} (he:EVA W T n env out j0 μ Θ (eval e env) d μ' Θ') (hin:autoParam (interactive env = false) rfT) (hsw:autoParam (swapsWith e none pos.line env = pure false) rfT) :
  EXA W T n env out j0 μ Θ (exec (.Expr e pos) env) (.nxt μ' Θ'):=by
 refine .of ?_;intro A s vm O r kn t R Q E q;exact wpAny_Expr_any (he.run A s vm O r kn t R _ _ fun v h1a tA vm1 O1 lA R1 xA dv=>q _ h1a tA lA ⟨rfl,vm1,O1,R1,xA⟩) hin hsw
structure FMA (W:Wd) (T:Heap->Prop) (n:Nat) (fr:List Env) (f:Value) (args:List D) (Θ:List ac) (d:D) (Θ':List ac):Prop where
 of ::
 code:∀ (A:Around) (s:Shared) (O:List Addr) (vals:List Value),aL n A->A.frames = some fr->0 <= s.toks->RpH W T Nox Θ s.heap O->am s.heap O (Mx Nox O Θ) vals args->
  ∀ (P:Result->Shared->Prop),(∀ v h' tk O',s.toks <= tk->RpH W T Nox Θ' h' O'->Nx W Nox s.heap O Θ h' O' Θ'->Den h' O' (Mx Nox O' Θ') v d->P (.ok (.ret v)) { s with heap:=h',toks:=tk })->codeAny (model W.prog W.w) A (.call f ⟨vals,[]⟩) P s
theorem qb {h h0a h1a:Heap} {O:List Addr} {vm:Str->Option Value} (R0:RpH W T Nox Θ h O) (stO:Stp W T h h0a) (st:Stp W T h0a h1a) (R1:RpH W T Nox Θ h0a O) (hn:h0a.get? env.locals = none) (hb:W.nb <= env.locals) (F:Fm W h1a env vm) (fresh:∀ a,Fx env a->h0a.get? a = none) (V:bz h1a O (Mx Nox O Θ) vm μ) :
  Rp W T env Nox μ (Θ ++ [.gone]) h1a vm (O ++ [env.locals]) /\ ∀ {h':Heap} {O':List Addr} {Θ':List ac},Nx W (Fx env) h1a (O ++ [env.locals]) (Θ ++ [.gone]) h' O' Θ'->Nx W Nox h O Θ h' O' Θ':=by
 obtain ⟨R2,x2⟩:=R1.new (ob:=.gone) st hn hb (let ⟨_,e,_⟩:=F.at_fx (.inl rfl);by rw [e];rfl) trivial
 have lv:∀ a,bf (O ++ [env.locals]) (Θ ++ [.gone]) a->bf O Θ a:=fun a ⟨j,ob,h1,h2,h3⟩=>(j6 R1.len h1 h2).elim (fun q=>⟨j,ob,q.1,q.2,h3⟩) fun q=>absurd q.2 h3
 exact ⟨⟨R2,F,fun x d e=>let ⟨v,a,b⟩:=V x d e;⟨v,a,b.kseq (.refl _) (fun _ _ e=>dt e) fun a m _=>m.imp id (lv a)⟩,fun a la fa=>by
  have:=ou R1 (lv a la);rw [fresh a fa] at this;cases this⟩,
  fun x=>((((Nx.of stO).trans x2 R0.len).wide).trans x R0.len).strip fun a f=>eY stO (fresh a f)⟩
theorem nv (hW:Wok W T) {f:Addr} {fd:FuncData} {body:List Stmt} {oc:Value} {od:Option Addr} {osl:Array (Option Value)} {names:List Str} {args bd:List D} {d:D} {fr:List Env}
  (ho:W.K.lookup f = some ⟨oc,od,.func fd,osl⟩) (hbody:fd.body = .stmts body) (hcd:codeIn W.K fd.code fd.qualname = true) (hclo:fd.closure = []) (hgl:fd.globals = mainGlobals) (hbl:fd.builtins = builtinsNs)
  (hbind:BND W T fd args names bd) (hpar:names.all (ew fd.scope) = true) (hsc:br fd.scope = true)
  (hb:∀ L,∃ o,EXA W T n (callEnvC fd L f) fr Θ.length (ix names bd) (Θ ++ [.gone]) (execs body (callEnvC fd L f)) o /\ (o = .ret d Θ' \/ ∃ μ',o = .nxt μ' Θ' /\ d = .none))
  (hco:autoParam (fd.scope.isCoroutine = false) rfT) (hgen:autoParam (fd.scope.isGenerator = false) rfT) (hk:autoParam (fd.scope.kind = .function) rfT):FMA W T (n + 1) fr (.ref f) args Θ d Θ':=by
 refine .of ?_;intro A s O vals r hfr tO R0 V P q;refine jU hW ho hbody hcd hclo hgl hbl hbind hpar hsc hco hgen hk r tO R0 V fun L h0a h1a tk1 vm leA stO st R1 hn hL F fresh VA=>?_
 obtain ⟨R,fin⟩:=qb (env:=callEnvC fd L f) R0 stO st R1 hn hL F fresh VA;obtain ⟨o,hb,hout⟩:=hb L;refine hb.run _ _ _ _ (r.deeper _) ⟨Around.frames_deeper hfr,by rw [<- R0.len];simp⟩ (Nat.le_trans tO leA) R _ _ fun fl h' tk le2 p=>?_
 rcases hout with rfl | ⟨μ',rfl,rfl⟩
 ·obtain ⟨v,O',rfl,R',dv,x⟩:=p;exact q v h' tk O' (Nat.le_trans leA le2) R' (fin x) dv
 ·obtain ⟨rfl,vm',O',R',x⟩:=p;exact q .none h' tk O' (Nat.le_trans leA le2) R'.toRpH (fin x) .none
theorem gg (hW:Wok W T) {b:Bool} {x:Str} {px:Pos} {name:Str} {apos pos:Pos} {d:D} {i j:Nat} {C f:Addr} {ss:List (Option D)} {m:List (Str × D)} (F:cT W.K C b) (G:io W.K C name f)
  (ho:EVM W T n env μ Θ (eval (.Name x px) env) (.ref i) μ Θ) (hi:Θ[i]? = some (.minst C j ss)) (hj:Θ[j]? = some (.mns m)) (hm:m.lookup name = none) (hg:Θ[j0]? = some .gone) (hg':Θ'[j0]? = some .gone) (hd:d.nr = true)
  (hf:∀ vm,FMA W T n (env :: out) (.ref f) [.ref i] (Θ.set j0 (.mframe env vm)) d (Θ'.set j0 (.mframe env vm))) (hfr:autoParam (env.frame = some env.locals) rfT) (hline:autoParam ((apos.endLine == pos.line) = true) rfT) :
  EVA W T n env out j0 μ Θ (eval (.Call (.Attribute (.Name x px) name apos) [] [] pos) env) d μ Θ':=by
 refine .of ?_;intro A s vm O r kn t R Q E q;refine iS rfl rfl hline (ho.run A s vm O Nox r t R _ _ fun v h1a tA vm1 O1 lA R1 xA dA=>?_)
 induction dA using rE with
 | ref hai=>
 rename_i a;refine cD R1.toRpH hai hi hj fun dx vs od vk e1 ej e2 I hn hv hl dl=>?_
 have z:=hv name;rw [hm] at z;refine method_fn (s:={ s with heap:=h1a,toks:=tA }) R1.gd.k I F.ga F.gk G.find G.typ (gm hl (cP z)) ?_
 refine callWith_K0 R1.gd.k G.keep ?_
 have kn1:=kn.ext xA.ext;obtain ⟨m',hm',Ro,mx,lv⟩:=R1.own kn1.own hg hfr;refine wpAny_call ((hf m').code A { s with heap:=h1a,toks:=tA } O1 [.ref a] r kn1.frames (Nat.le_trans t lA) Ro (.cons (.ref hai) .nil) _ fun v h3a tC O3 l3 R3 xC d3=>?_)
 obtain ⟨R4,xD⟩:=R1.back kn1.own hg hg' hm' mx lv Ro R3 xC;refine q v h3a tC vm1 O3 (Nat.le_trans lA l3) R4 (xA.trans xD R.len) (d3.more fun c mm=>.inl (mm.imp id fun ⟨k,ob,h1,h2,h3⟩=>⟨k,ob,h1,?_,h3⟩))
 by_cases hk:j0 = k
 ·subst hk;rw [hg'] at h2;cases h2;exact absurd rfl h3
 ·rw [getElem?_set_ne hk];exact h2
end
theorem ul {x:Value} {Q:Fin->Shared->Prop} (hit:s.heap.IsListIter it l i) (hl:s.heap.IsList l items) (hx:items[i]? = some x)
  (hQ:∀ h',h'.IsListIter it l (i + 1)->Heap.SameBut it s.heap h'->Q (.done (.ret x)) { s with heap:=h' }):wpAny (model prog w) A (Builtin.«list_iterator.__next__» ⟨[.ref it],[]⟩) Q E s:=by
 obtain ⟨ob,ho,hc,hd⟩:=id hit;obtain ⟨ol,hol,_,nl,hdl⟩:=hl;show wpAny _ _ (field (.ref it) 0 >>= _) _ _ s;refine wpAny_bind (wpAny_field ho hd (x:=.ref l) rfl ?_)
 show wpAny _ _ (if (Value.ref l == Value.none) = true then _ else _) _ _ s
 rw [if_neg (show ¬ ((Value.ref l == Value.none) = true) from Bool.false_ne_true)]
 show wpAny _ _ (field (.ref it) 1 >>= _) _ _ s;refine wpAny_bind (wpAny_field ho hd (x:=.int i 0) rfl ?_)
 show wpAny _ _ (seqItems? (.ref l) >>= _) _ _ s;refine wpAny_bind (wpAny_seqItems hol hdl ?_)
 simp only [Int.toNat_natCast,hx];refine wpAny_bind (wpAny_setField ho hd (by simp) (wpAny_pure (hQ _ ?_ (Heap.SameBut.update ..))))
 exact ⟨_,Heap.get?_update_self _ ho (Obj.isFreed_of_fields (Obj.data_mapFields hd _)),(Obj.cls_mapFields ..).trans hc,by
  rw [Obj.data_mapFields hd];simp [rawInt]⟩
theorem uj {Q:Fin->Shared->Prop} (hh:A.handled = none) (hit:s.heap.IsListIter it l i) (hl:s.heap.IsList l items) (hx:items[i]? = none)
  (hE:∀ h' e,Heap.ExtBut it s.heap h'->(h'.get? it).isSome->s.heap.objs.size <= e->(∃ t vs,h'.get? e = some { cls:=.type "StopIteration",data:=.fields vs } /\ vs[0]? = some (.ref t) /\ vs[1]? = some .none)->E (.ref e) { s with heap:=h' }) :
  wpAny (model prog w) A (Builtin.«list_iterator.__next__» ⟨[.ref it],[]⟩) Q E s:=by
 obtain ⟨ob,ho,hc,hd⟩:=id hit;obtain ⟨ol,hol,_,nl,hdl⟩:=hl;show wpAny _ _ (field (.ref it) 0 >>= _) _ _ s;refine wpAny_bind (wpAny_field ho hd (x:=.ref l) rfl ?_)
 show wpAny _ _ (if (Value.ref l == Value.none) = true then _ else _) _ _ s
 rw [if_neg (show ¬ ((Value.ref l == Value.none) = true) from Bool.false_ne_true)]
 show wpAny _ _ (field (.ref it) 1 >>= _) _ _ s;refine wpAny_bind (wpAny_field ho hd (x:=.int i 0) rfl ?_)
 show wpAny _ _ (seqItems? (.ref l) >>= _) _ _ s;refine wpAny_bind (wpAny_seqItems hol hdl ?_)
 simp only [Int.toNat_natCast,hx];refine wpAny_bind (wpAny_rule (wpAny_bind (wpAny_setField ho hd (by simp) ?_)))
 show wpAny _ _ (newExc (.type "StopIteration") [] >>= _) _ _ _;refine wpAny_bind ?_
 simp only [newExc,newTuple];refine wpAny_bind (wpAny_newObj_type ?_ (by size_fits))
 refine wpAny_bind (m:=firstArgMember _ _) (wpAny_of_eq (a:=Value.none) (by first | rfl | (simp only [firstArgMember];rfl)) ?_)
 refine wpAny_newObj_type ?_ (by size_fits)
 unfold raiseNew;refine wpAny_bind (wpAny_handled ?_)
 rw [hh];refine wpAny_bind (wpAny_pure (wpAny_throw ?_))
 have hf:=Heap.get?_update_self (Obj.mapFields fun x=>x.setIfInBounds 0 Value.none) ho (Obj.isFreed_of_fields (Obj.data_mapFields hd _))
 have hs1:((s.heap.update it (Obj.mapFields fun x=>x.setIfInBounds 0 Value.none)).push { cls:=Value.type "tuple",data:=Data.seq #[] }).objs.size = s.heap.objs.size + 1:=by
  rw [Heap.size_push,(Heap.SameBut.update s.heap it _).1]
 refine hE _ _ (((Heap.SameBut.update ..).extBut.push _).push _) ?_ ?_ ⟨(s.heap.update it (Obj.mapFields fun x=>x.setIfInBounds 0 Value.none)).objs.size,_,Heap.get?_push_size _ rfl,by rw [Array.getElem?_append_left (Nat.lt_of_sub_ne_zero (by simp))];rfl,by rw [Array.getElem?_append_left (Nat.lt_of_sub_ne_zero (by simp))];rfl⟩
 ·rw [Heap.get?_push_of_some _ (Heap.get?_push_of_some _ hf)];rfl
 ·rw [hs1];exact le_succ _
theorem oH {u:Addr} (hu:s.heap.get? u = some (e8 it))
  (hb:wpAny (model prog w) A.in1 (Builtin.«list_iterator.__next__» ⟨[.ref it],[]⟩) (fun fin s'=>match fin with | .done f=>R (.ok f) s' | .again c'=>c'.quiet = true /\ codeAny (model prog w) A c' R s') (fun e s'=>R (.error e) s') s) :
  codeAny (model prog w) A (.call (.ref u) ⟨[],[]⟩) R s:=by
 refine codeAny_of_tree ?_
 show wpAny _ _ (callAny (.ref u) _) _ _ _;refine nd_load hu ?_
 have e1:checkBoundCall "list_iterator.__next__" ⟨[.ref it],[]⟩ = pure ():=by kernel_rfl
 show wpAny _ _ (checkBoundCall "list_iterator.__next__" ⟨[.ref it],[]⟩ >>= fun _=>again (.builtin "list_iterator.__next__" ⟨[.ref it],[]⟩)) _ _ _
 rw [e1];exact wpAny_bind (wpAny_pure (wpAny_pure (a:=Fin.again _) (And.intro (Code.quiet_builtin _ (by decide +kernel)) (codeAny_builtin entry_listiter_next hb))))
variable {out:List Env} {j0:Nat}
structure EVL (W:Wd) (T:Heap->Prop) (env:Env) (μ:Str->Option D) (Θ:List ac) (c:Sem Value) (d:D) (Θ':List ac):Prop where
 of ::
 run:∀ (A:Around) (s:Shared) (vm:Str->Option Value) (O:List Addr) (M0:Addr->Prop),0 <= s.toks->Rp W T env M0 μ Θ s.heap vm O->
  ∀ (Q E:Value->Shared->Prop),(∀ v h' tk O',s.toks <= tk->Rp W T env M0 μ Θ' h' vm O'->Nx W (Fx env) s.heap O Θ h' O' Θ'->Den h' O' (Mx M0 O' Θ') v d->Q v { s with heap:=h',toks:=tk })->wpAny (model W.prog W.w) A c Q E s
structure EXL (W:Wd) (T:Heap->Prop) (env:Env) (μ:Str->Option D) (Θ:List ac) (c:Sem Flow) (Θ':List ac):Prop where
 of ::
 run:∀ (A:Around) (s:Shared) (vm:Str->Option Value) (O:List Addr) (M0:Addr->Prop),0 <= s.toks->Rp W T env M0 μ Θ s.heap vm O->
  ∀ (Q:Flow->Shared->Prop) (E:Value->Shared->Prop),(∀ h' tk O',s.toks <= tk->Rp W T env M0 μ Θ' h' vm O'->Nx W (Fx env) s.heap O Θ h' O' Θ'->Q .next { s with heap:=h',toks:=tk })->wpAny (model W.prog W.w) A c Q E s
theorem vo {x:Str} (hx:μ x = some d) (hl:env.kindOf x = some .local) (hd:autoParam ((x == ("__debug__" : Str)) = false) deT):EVL W T env μ Θ (eval (.Name x pos) env) d Θ:=by
 refine .of ?_;intro A s vm O M0 t R Q E q;obtain ⟨v,hv,dv⟩:=R.vars x d hx;obtain ⟨m,hns,hm⟩:=R.fm.loc;exact wpAny_Name (wpAny_loadName_local R.fm.kind hl hns ((hm x hl).trans hv) (q v s.heap s.toks O (Nat.le_refl _) R (.refl ..) dv)) hd
theorem rX (hW:Wok W T) {ob:Expr} (ho:EVL W T env μ Θ (eval ob env) (.ref i) Θ') (hi:Θ'[i]? = some (.mlist (ds ++ [d]))) (hl:ds.length <= 10000)
  (hb:autoParam (attributeBase ob "pop" env (eval ob env) = eval ob env) rfT) (hline:autoParam ((apos.endLine == pos.line) = true) rfT) :
  EVL W T env μ Θ (eval (.Call (.Attribute ob "pop" apos) [] [] pos) env) d (Θ'.set i (.mlist ds)):=by
 refine .of ?_;intro A s vm O M0 t R Q E q;refine fM (id := "list.pop") hb rfl hline rfl (ho.run A s vm O M0 t R _ _ fun v h1a tA O1 lA R1 xA dA=>?_)
 induction dA using rE with
 | ref ha=>
 rename_i a;obtain ⟨vs,⟨j,pl⟩,dl⟩:=R1.obs i a _ ha hi;obtain ⟨ws,v,rfl,dw,dv⟩:=ot dl;have hT:({ s with heap:=h1a,toks:=tA }:Shared).TypeIs (.ref a) "list":=⟨_,pl,rfl⟩
 refine getMethod_builtin (s:={ s with heap:=h1a,toks:=tA }) hT PySem.F.plainAttrs_list PySem.F.slot_list_pop PySem.F.type_list_pop (fun b e=>by cases e;exact ⟨_,pl,rfl⟩) ⟨rfl,?_⟩
 refine spliced_none ?_
 have hsz:(ws ++ [v]).toArray.size = ws.length + 1:=by simp
 refine call_meets (s:={ s with heap:=h1a,toks:=tA }) PySem.F.slot_list_pop hT PySem.F.entry_list_pop (PySem.F.args_list_pop_1 _) (PySem.MeetsSeq.list_pop_last a (ws ++ [v]).toArray j v (by rw [hsz];simp) (by rw [hsz,dw.length,sizeLine_eq];omega)) ⟨pl,?_⟩
 have sb:Heap.SameBut a h1a (h1a.update a (Obj.mapSeq fun xs=>xs.eraseIdxIfInBounds ((ws ++ [v]).toArray.size - 1))):=Heap.SameBut.update _ _ _
 have e2:(ws ++ [v]).toArray.eraseIdxIfInBounds ((ws ++ [v]).toArray.size - 1) = ws.toArray:=by
  apply Array.ext'
  rw [hsz];simp [Array.eraseIdxIfInBounds,List.eraseIdx_append_of_length_le]
 have pl':(h1a.update a (Obj.mapSeq fun xs=>xs.eraseIdxIfInBounds ((ws ++ [v]).toArray.size - 1))).PlainList a ws.toArray:=by
  have key:∃ k,Obj.mapSeq (fun xs=>xs.eraseIdxIfInBounds ((ws ++ [v]).toArray.size - 1)) { cls:=.type "list",data:=.seq (ws ++ [v]).toArray j } = { cls:=.type "list",data:=.seq ws.toArray k }:=by
   unfold Obj.mapSeq;dsimp only
   rw [e2];exact ⟨_,rfl⟩
  obtain ⟨k,key⟩:=key;exact ⟨k,by rw [Heap.get?_update_self _ pl (by rw [key];rfl),key]⟩
 obtain ⟨R3,xC⟩:=R1.toRpH.mlist hW ha hi sb pl' dw;exact q _ _ tA O1 lA (R1.called R3 xC) (xA.trans xC.wide R.len) (dv.nx R1 xC.wide)
variable {spos:Pos}
theorem xX (hW:Wok W T) {ob:Expr} {k:Str} {ep:Option Nat} (ho:EVL W T env μ Θ (eval ob env) (.ref i) Θ) (he:EVL W T env μ Θ (eval e env) (.str k) Θ') (hi:Θ'[i]? = some (.mdict kvs ep)) (hk:kvs.lookup k = some d) (hsz:kvs.length <= 1000) :
  EXL W T env μ Θ (exec (.Delete [.Subscript ob e spos] pos) env) (Θ'.set i (.mdict (jP kvs k) none)):=by
 refine .of ?_;intro A s vm O M0 t R Q E q;refine wpAny_Delete (wpAny_deleteEach_cons (wpAny_delete_Subscript (ho.run A s vm O M0 t R _ _ fun v h1a tA O1 lA R1 xA dA=>?_)))
 refine he.run A _ vm O1 M0 (Nat.le_trans t lA) R1 _ _ fun w hJ tJ O2 lB R2 x2 dB=>?_
 induction dA using rE with
 | ref ha=>
 rename_i a
 induction dB using sE with
 | str tk=>
 have haB:=x2.ext.pre _ _ ha;obtain ⟨vk,eJ,D2,_,dl⟩:=R2.obs i a _ haB hi;have z:=dl.look k;rw [hk] at z
 have hv:(valueAt vk k).isSome = true:=by cases y:valueAt vk k with
  | none=>rw [y] at z;cases z
  | some _=>rfl
 refine wpAny_delItem_slot (s:={ s with heap:=hJ,toks:=tJ }) D2.dictOf.typeIs (by decide) PySem.F.slot_dict_delitem (call_meetsIn PySem.F.slot_dict_delitem D2.dictOf.typeIs PySem.F.entry_dict_delitem (PySem.F.args_dict_delitem_2 _ _) (meets_dict_delitem_pairs (strKind W.prog W.w) a (ji k tk)) ⟨vk,D2.dictOf,by rw [dl.length,sizeLine_eq];omega,hv,fun h3a hd sb=>wpAny_deleteEach_nil ?_⟩)
 obtain ⟨eC,D3⟩:=hd.dictAt;obtain ⟨R3,xC⟩:=R2.toRpH.upd hW (ob':=.mdict (jP kvs k) none) haB hi nox nox sb ⟨_,eC,D3,(fun _ q=>by cases q),(dl.del k).kq (sr haB hi nox sb)⟩
 exact q h3a (tJ + 1) O2 (Nat.le_trans lA (Nat.le_trans lB (le_succ _))) (R2.called R3 xC) ((xA.trans x2 R.len).trans xC.wide R.len)
theorem vd (he:EVL W T env μ Θ (eval e env) d Θ') (hin:autoParam (interactive env = false) rfT) (hsw:autoParam (swapsWith e none pos.line env = pure false) rfT):EXL W T env μ Θ (exec (.Expr e pos) env) Θ':=by
 refine .of ?_;intro A s vm O M0 t R Q E q;exact wpAny_Expr_any (he.run A s vm O M0 t R _ _ fun v h1a tA O1 lA R1 xA dv=>q h1a tA O1 lA R1 xA) hin hsw
theorem wf:EXL W T env μ Θ (execs [] env) Θ:=.of fun _ s _ O _ _ R _ _ q=>wpAny_execs_nil (q s.heap s.toks O (Nat.le_refl _) R (.refl ..))
theorem nU {st:Stmt} (h1:EXL W T env μ Θ (exec st env) Θ') (h2:EXL W T env μ Θ' (execs rest env) Θ''):EXL W T env μ Θ (execs (st :: rest) env) Θ'':=by
 refine .of ?_;intro A s vm O M0 t R Q E q;refine wpAny_execs_cons (h1.run A s vm O M0 t R _ _ fun h' tk O' le R' x=>?_)
 exact h2.run A _ vm O' M0 (Nat.le_trans t le) R' Q E fun h'' tk' O'' le' R'' x'=>q h'' tk' O'' (Nat.le_trans le le') R'' (x.trans x' R.len)
theorem qv:EX W T n env μ Θ (exec (.Break pos) env) (.brk μ Θ):=.of fun _ s vm O _ _ _ R _ _ q=>wpAny_Break (q _ s.heap s.toks (Nat.le_refl _) ⟨rfl,vm,O,R,.refl ..⟩)
theorem q9:EX W T n env μ Θ (exec (.Continue pos) env) (.cont μ Θ):=.of fun _ s vm O _ _ _ R _ _ q=>wpAny_Continue (q _ s.heap s.toks (Nat.le_refl _) ⟨rfl,vm,O,R,.refl ..⟩)
theorem qI (hv:EVM W T n env μ Θ (eval value env) (.ref i) μ Θ) (hs:EVM W T n env μ Θ (eval slice env) (.int (-1)) μ Θ) (hi:Θ[i]? = some (.mlist (ds ++ [d]))) (hl:ds.length <= 10000)
  (hsub:autoParam (∀ o i,subscripted slice false o i = operate [o,i] (getItem o i)) r2T):EVM W T n env μ Θ (eval (.Subscript value slice pos) env) d μ Θ:=by
 refine .of ?_;intro A s vm O M0 r t R Q E q;refine Subscript_ (hv.run A s vm O M0 r t R _ _ fun v h1a tA vm1 O1 lA R1 xA dA=>?_)
 refine hs.run A _ vm1 O1 M0 r (Nat.le_trans t lA) R1 _ _ fun w hJ tJ vm2 O2 lB R2 x2 dB=>?_
 induction dA using rE with
 | ref ha=>
 rename_i a
 induction dB using iE with
 | int tk=>
 have haB:=x2.ext.pre _ _ ha;obtain ⟨vs,pl,dl⟩:=R2.obs i a _ haB hi;obtain ⟨ws,v,rfl,dw,dv⟩:=ot dl;have hsz:(ws ++ [v]).toArray.size = ws.length + 1:=by simp
 have hIs:({ s with heap:=hJ,toks:=tJ }:Shared).heap.IsList a (ws ++ [v]).toArray:=pl.isList
 refine tail_any (s:={ s with heap:=hJ,toks:=tJ }) hIs.typeIs slot_list_getitem.lookup (wpAny_getItem_list_neg hIs (by decide) (by rw [hsz];omega) (by decide) (x:=v) (by
  have e:((-1:Int) + ((ws ++ [v]).toArray.size:Int)).toNat = ws.length:=by rw [hsz];omega
  rw [e];simp) ?_) (hsub _ _)
 exact q v hJ tJ vm2 O2 (Nat.le_trans lA lB) R2 (xA.trans x2 R.len) dv
structure Top (Θ:List ac) (st:Nat) (ii li k:Nat) (es:List D):Prop where
 stk:∃ ds w,Θ[st]? = some (.mlist (ds ++ [.ref w])) /\ ds.length <= 10000 /\ Θ[w]? = some (.mwrap ii)
 it:Θ[ii]? = some (.mliter li k)
 li:Θ[li]? = some (.mlist es)
theorem kW {M:Model} {u:Addr} (hu:s.heap.get? u = some (e8 it)) (h:wpAny M A (call (.ref u) []) Q E s):wpAny M A (callWith pos (.ref u) [] (backTo pos (starEach [] env)) []) Q E s:=by
 unfold callWith;refine wpAny_bind (wpAny_holding ?_)
 refine iM (spliced_none ?_) rfl
 refine wpAny_bind (wpAny_standAt ?_)
 have e0:((backTo pos (starEach [] env)).any (·.1) || ([]:List (Option Str × Sem Value)).any (·.1.isNone)) = false:=rfl;rw [e0];refine wpAny_bind (m:=keeperOf (.ref u)) ?_
 unfold keeperOf;refine wpAny_bind (wpAny_load hu ?_)
 simp only [e8,show (Value.type "method-wrapper" != Value.type "method") = true by decide,show (Value.type "method-wrapper" == Value.type "builtin_function_or_method" || Value.type "method-wrapper" == Value.type "method-wrapper") = true by decide,if_true]
 exact wpAny_pure (rA h)
variable {ii:Nat}
theorem vt (hW:Wok W T) {st li:Nat} (hv:EVM W T n env μ Θ (eval value env) (.ref st) μ Θ) (hs:EVM W T n env μ Θ (eval slice env) (.int (-1)) μ Θ) (H:Top Θ st ii li k es) (hk:es[k]? = some d)
  (hsub:autoParam (∀ o i,subscripted slice false o i = operate [o,i] (getItem o i)) r2T) (he:autoParam (eval (.Call (.Subscript value slice spos) [] [] pos) env = (do callWith pos (<- eval (.Subscript value slice spos) env) [] (backTo pos (starEach [] env)) (backToKw pos (keywordEach [] env)))) rfT) :
  EVM W T n env μ Θ (eval (.Call (.Subscript value slice spos) [] [] pos) env) d μ (Θ.set ii (.mliter li (k + 1))):=by
 refine .of ?_;intro A s vm O M0 r t R Q E q;obtain ⟨⟨ds,w,h1,h2,h3⟩,h4,h5⟩:=H;refine Call_ ((qI hv hs h1 h2 hsub).run A s vm O M0 r t R _ _ fun v h1a tA vm1 O1 lA R1 xA dA=>?_) he
 induction dA using rE with
 | ref hw=>
 rename_i u;obtain ⟨it,hit,eu⟩:=R1.obs w u _ hw h3;obtain ⟨l,hli,hI⟩:=R1.obs ii it _ hit h4;obtain ⟨vs,pl,dl⟩:=R1.obs li l _ hli h5;obtain ⟨v,hv',dv⟩:=dl.get k d hk;refine kW (s:={ s with heap:=h1a,toks:=tA }) eu (wpAny_call (oH eu (ul hI pl.isList (x:=v) (by simpa using hv') fun hJ hI' sb=>?_)))
 obtain ⟨R2,x2⟩:=R1.toRpH.upd hW (ob':=.mliter li (k + 1)) hit h4 nox nox sb ⟨l,hli,hI'⟩;exact q v hJ tA vm1 O1 lA (R1.called R2 x2) (xA.trans x2.wide R.len) (dv.nx R1 x2.wide)
noncomputable def bI (Θ:List ac) (out:List Env):Prop:=∀ e ∈ out,∃ (j:Nat) (m:Str->Option Value),Θ[j]? = some (.mframe e m)
noncomputable def Fra (env:Env) (out:List Env) (a:Addr):Prop:=∃ e ∈ env :: out,e.frame = some a
theorem gt (R:Rp W T env Nox μ Θ h vm O) (hout:bI Θ out) (hf:env.frame = some env.locals) {a:Addr} (f:Fra env out a):(a = env.locals) \/ ∃ (j:Nat) (e:Env) (m:Str->Option Value),O[j]? = some a /\ Θ[j]? = some (.mframe e m):=by
 obtain ⟨e,he,ea⟩:=f;rcases List.mem_cons.mp he with rfl | he
 ·rw [hf] at ea;cases ea;exact .inl rfl
 ·obtain ⟨j,m,hj⟩:=hout e he;have hlt:j < O.length:=by have:=(List.getElem?_eq_some_iff.mp hj).1;rw [R.len];exact this
  have hO:O[j]? = some O[j]:=by simp [hlt]
  obtain ⟨e1,_,_⟩:=R.obs j _ _ hO hj;rw [ea] at e1;cases e1;exact .inr ⟨j,e,m,hO,hj⟩
theorem gX (R:Rp W T env Nox μ Θ h vm O) (hout:bI Θ out) (hf:env.frame = some env.locals) {a:Addr} (f:Fra env out a):W.nb <= a /\ ∃ ob es ep,h.get? a = some ob /\ ob.data = .dict es ep:=by
 rcases gt R hout hf f with rfl | ⟨j,e,m,h1,h2⟩
 ·obtain ⟨m,⟨ob,es,ep,e,hd,_⟩,_⟩:=R.fm.loc;exact ⟨R.fm.above _ (.inl rfl),ob,es,ep,e,hd⟩
 ·obtain ⟨_,_,ob,es,ep,e,hd,_⟩:=R.obs j a _ h1 h2;exact ⟨R.above a (mem_of_getElem? h1),ob,es,ep,e,hd⟩
theorem mM {B:Heap} (R:Rp W T env Nox μ Θ h vm O) (hout:bI Θ out) (hf:env.frame = some env.locals) (hB:∀ a,Fra env out a->B.get? a = none):h.FunFrames B (env :: out):=by
 have key:∀ l:List Env,(∀ e ∈ l,e ∈ env :: out)->h.FunFrames B l:=by
  intro l
  induction l with
  | nil=>intro _;trivial
  | cons e l ih=>
   intro hl;have he:=hl e (.head _);have hk:e.scope.kind = .function /\ ∃ a,e.frame = some a:=by
    rcases List.mem_cons.mp he with rfl | h'
    ·exact ⟨R.fm.kind,_,hf⟩
    ·obtain ⟨j,m,hj⟩:=hout e h';have hlt:j < O.length:=by have:=(List.getElem?_eq_some_iff.mp hj).1;rw [R.len];exact this
     obtain ⟨e1,e2,_⟩:=R.obs j O[j] _ (by simp [hlt]) hj
     exact ⟨e2,_,e1⟩
   obtain ⟨hk1,a,ea⟩:=hk;have fa:Fra env out a:=⟨e,he,ea⟩;obtain ⟨_,ob,es,ep,eo,hd⟩:=gX R hout hf fa;exact ⟨by rw [hk1];decide,⟨a,ob,ea,hB a fa,eo,fun vs q=>by rw [hd] at q;cases q⟩,ih fun e' h'=>hl e' (.tail _ h')⟩
 exact key _ fun _ h=>h
variable {xs:Array Value}
theorem Rp.slots (hW:Wok W T) {x:Addr} {xo:Obj} (R:Rp W T env Nox μ Θ h vm O) (hout:bI Θ out) (hf:env.frame = some env.locals)
  (hx:h.get? x = some xo) (hxd:xo.data = .fields xs) (hxc:¬ bH xo) (hxb:W.nb <= x) (hxO:x ∉ O) (k:∀ a ob,a ≠ x->¬ Fra env out a->h.get? a = some ob->h'.get? a = some ob) (us:h.UpToSlots h') (hx':(h'.get? x).isSome) :
  Rp W T env Nox μ Θ h' vm O /\ ∀ a,(h.get? a).isSome->(h'.get? a).isSome:=by
 have gr:∀ a,(h.get? a).isSome->(h'.get? a).isSome:=fun a e=>by
  by_cases q:a = x
  ·subst q;exact hx'
  ·by_cases f:Fra env out a
   ·obtain ⟨_,ob,es,ep,eo,hd⟩:=gX R hout hf f;obtain ⟨sl,e'⟩:=us a ob eo fun vs q=>by rw [hd] at q;cases q
    rw [e'];rfl
   ·obtain ⟨ob,eo⟩:=Option.isSome_iff_exists.mp e;rw [k a ob q f eo];rfl
 have notfr:∀ a ob,h.get? a = some ob->(∀ es ep,ob.data ≠ .dict es ep)->¬ Fra env out a:=fun a ob e hd f=>by
  obtain ⟨_,ob',es,ep,eo,hd'⟩:=gX R hout hf f;rw [e] at eo;cases eo;exact hd es ep hd'
 have ks:aN (Mx Nox O Θ) h h':=fun a ob ys j _ e hd=>k a ob (fun q=>by subst q;rw [hx] at e;cases e;rw [hxd] at hd;cases hd) (notfr a ob e fun es ep q=>by rw [hd] at q;cases q) e
 refine ⟨⟨⟨R.gd.base hW fun a ob ha e=>k a ob (fun q=>?_) (fun f=>?_) e,fun a m=>m.elim,R.len,R.nd,R.apart,R.above,fun a ha=>gr a (R.there a ha),fun i a ob h1 h2=>?_⟩,?_,fun y d e=>?_,R.sep⟩,gr⟩
 ·subst q;rw [hx] at e;cases e;exact ha.elim (fun h1=>absurd hxb (Nat.not_le.mpr h1)) hxc
 ·obtain ⟨hb,ob',es,ep,eo,hd⟩:=gX R hout hf f;rw [e] at eo;cases eo;exact ha.elim (fun h1=>absurd hb (Nat.not_le.mpr h1)) (e6 hd)
 ·have ob':=R.obs i a ob h1 h2;by_cases hfr:∃ e m,ob = .mframe e m
  ·obtain ⟨e,m,rfl⟩:=hfr;obtain ⟨e1,e2,hns⟩:=ob';exact ⟨e1,e2,us.ns hns⟩
  ·refine ob'.mv (fun hg ob2 e=>k a ob2 (fun q=>hxO (q ▸ mem_of_getElem? h1)) (fun f=>?_) e) ks
   rcases gt R hout hf f with rfl | ⟨j,e',m,g1,g2⟩
   ·exact R.sep _ ⟨i,ob,h1,h2,hg⟩ (.inl rfl)
   ·have:=eF R.nd h1 g1;subst this;rw [h2] at g2;cases g2;exact hfr ⟨e',m,rfl⟩
 ·have F:=R.fm;refine ⟨F.kind,F.glob,F.blt,?_,fun y c e=>?_,F.apart,F.above,F.nocell⟩
  ·obtain ⟨m,hn,hm⟩:=F.loc;exact ⟨m,us.ns hn,hm⟩
  ·obtain ⟨ob,ho,hd⟩:=F.cell y c e;exact ⟨ob,k c ob (fun q=>by subst q;rw [hx] at ho;cases ho;rw [hxd] at hd;cases hd) (notfr c ob ho fun es ep q=>by rw [hd] at q;cases q) ho,hd⟩
 ·obtain ⟨v,a,b⟩:=R.vars y d e;exact ⟨v,a,b.kq ks⟩
theorem tL:isSubtype (.type "StopIteration") (.type "BaseException") = pure true:=by rw [isSubtype_type];kernel_rfl
theorem x0:isSubtype (.type ((Manifest.find? "StopIteration").elim "type" fun x=>x.metatype)) (.type "tuple") = pure false:=by rw [isSubtype_type];kernel_rfl
theorem bI.set (hout:bI Θ out) {ob:ac} (hi:Θ[i]? = some ob) (hn:∀ e m,ob ≠ .mframe e m):bI (Θ.set i ob') out:=fun e he=>by
 obtain ⟨j,m,hj⟩:=hout e he;refine ⟨j,m,?_⟩
 have:i ≠ j:=fun q=>by subst q;rw [hi] at hj;cases hj;exact hn e m rfl
 rw [getElem?_set_ne this];exact hj
theorem pO (hW:Wok W T) {x:Str} {pn ph:Pos} {b2:List Stmt} {bO:Stmt} {suite:List Stmt} {st li:Nat} 
  (hv:EVM W T n env μ Θ (eval value env) (.ref st) μ Θ) (hs:EVM W T n env μ Θ (eval slice env) (.int (-1)) μ Θ) (H:Top Θ st ii li k es) (hk:es[k]? = none) (hout:bI Θ out) (hx:Glb W env "StopIteration" (.type "StopIteration"))
  (hsu:EXL W T env μ (Θ.set ii .gone) (execs (bO :: suite) env) Θ') (hf:autoParam (env.frame = some env.locals) rfT)
  (hsub:autoParam (∀ o i,subscripted slice false o i = operate [o,i] (getItem o i)) r2T) (he:autoParam (eval (.Call (.Subscript value slice spos) [] [] cpos) env = (do callWith cpos (<- eval (.Subscript value slice spos) env) [] (backTo cpos (starEach [] env)) (backToKw cpos (keywordEach [] env)))) rfT)
  (hsw:autoParam (swapsWith (.Call (.Subscript value slice spos) [] [] cpos) (some (.Name x px)) apos.line env = pure false) rfT) :
  EXA W T n env out j0 μ Θ (exec (.Try (.Assign [.Name x px] (.Call (.Subscript value slice spos) [] [] cpos) apos :: b2) [.ExceptHandler (some (.Name "StopIteration" pn)) none (bO :: suite) ph] [] [] pos) env) (.nxt μ Θ'):=by
 refine .of ?_;intro A s vm O r kn t R Q E q;obtain ⟨⟨ds,w,h1,h2,h3⟩,h4,h5⟩:=H;refine wpAny_Try_except (wpAny_execs_cons (wpAny_Assign_Name (Call_ ((qI hv hs h1 h2 hsub).run A s vm O Nox r t R _ _ fun v h1a tA vm1 O1 lA R1 xA dA=>?_) he) hsw))
 induction dA using rE with
 | ref hw=>
 rename_i u;obtain ⟨it,hit,eu⟩:=R1.obs w u _ hw h3;obtain ⟨l,hli,hI⟩:=R1.obs ii it _ hit h4;obtain ⟨vs,pl,dl⟩:=R1.obs li l _ hli h5;have hk':vs.toArray[k]? = none:=by
  have:=List.getElem?_eq_none_iff.mp hk;simp;rw [dl.length];exact this
 refine kW (s:={ s with heap:=h1a,toks:=tA }) eu (wpAny_call (oH eu (uj (s:={ s with heap:=h1a,toks:=tA }) (show A.in1.handled = none from r.handled) hI pl.isList hk' fun h' e ex hs hge hxe=>?_)))
 obtain ⟨tt,xs,hxe,hv0,hv1⟩:=hxe;obtain ⟨R2,x2⟩:=R1.toRpH.drop1 hW hit h4 nox ex hs;have R2':=R1.called R2 x2;have hout2:bI (Θ.set ii .gone) out:=hout.set h4 fun _ _ q=>by cases q
 have en:h1a.get? e = none:=Heap.get?_none_of_le hge;have eO:e ∉ O1:=fun m=>by have:=R1.there e m;rw [en] at this;cases this
 have eb:W.nb <= e:=Nat.le_trans R1.gd.size hge;have nc:¬ bH ({ cls:=.type "StopIteration",data:=.fields xs }:Obj):=cr rfl fun q t z=>by rw [hv1] at z;cases z
 let hid:=e :: (env :: out).filterMap (·.frame)
 have hfra:∀ a,Fra env out a->a ∈ hid:=fun a ⟨ev,h1,h2⟩=>.tail _ (List.mem_filterMap.mpr ⟨ev,h1,h2⟩)
 have hnfra:∀ a,a ≠ e->¬ Fra env out a->a ∉ hid:=fun a h1 h2 m=>by
  rcases List.mem_cons.mp m with rfl | m
  ·exact h1 rfl
  ·obtain ⟨ev,h3,h4⟩:=List.mem_filterMap.mp m;exact h2 ⟨ev,h3,h4⟩
 have hB:∀ a,Fra env out a->(hideAll h' hid).get? a = none:=fun a f=>hideAll_none hid (hfra a f)
 have hBe:(hideAll h' hid).get? e = none:=hideAll_none hid (.head _);have FF:=mM (B:=hideAll h' hid) R2' hout2 hf hB;unfold noteFrame;simp only [hf];refine wpAny_bind (wpAny_field (s:={ s with heap:=h',toks:=tA }) hxe rfl hv1 ?_)
 rw [if_neg (by decide)]
 refine wpAny_entryW (s:={ s with heap:=h',toks:=tA }) kn.frames FF hf hxe (fun b o e=>of_hideAll hid e) hBe rfl (Array.getElem?_eq_some_iff.mp hv1).1 hv0 fun h3a N=>?_
 obtain ⟨n1,n2,n3,n4⟩:=N;have us3:h'.UpToSlots h3a:=n4;refine wpAny_landsW (s:={ s with heap:=h3a,toks:=tA }) ⟨n1,hBe,n2,n3⟩ fun h4a fl4 us4=>?_
 have us4:h3a.UpToSlots h4a:=us4;have upto4:=us3.trans us4;have kB:∀ {g:Heap},(hideAll h' hid).StaysIn g->∀ a ob,a ≠ e->¬ Fra env out a->h'.get? a = some ob->g.get? a = some ob:=fun st a ob h1 h2 h3=>st a ob (hideAll_get hid h3 (hnfra a h1 h2))
 obtain ⟨oe4,he4,hc4⟩:=fl4.there;obtain ⟨R4,_⟩:=R2'.slots hW hout2 hf hxe rfl nc eb eO (kB fl4.1) upto4 (by rw [he4];rfl)
 refine wpAny_handleBy_builtin (X := "StopIteration") (T := "StopIteration") (b:=true) tL x0 isSubtype_stop (bT (s:={ s with heap:=h4a,toks:=tA }) hW R4.gd R4.fm hx ⟨rfl,⟨oe4,he4,hc4⟩,?_⟩)
 refine lands_againW (s:={ s with heap:=h4a,toks:=tA }) fl4 fun h5a fl5 us5=>?_
 have uptoE:=upto4.trans us5;obtain ⟨oe5,he5,hc5⟩:=fl5.there;obtain ⟨R5,gr5⟩:=R2'.slots hW hout2 hf hxe rfl nc eb eO (kB fl5.1) uptoE (by rw [he5];rfl)
 refine hsu.run _ { s with heap:=h5a,toks:=tA } vm1 O1 Nox (Nat.le_trans t lA) R5 Q _ fun h6a t6 O6 lF R6 x6=>?_
 have nx:Nx W (Fx env) h1a O1 Θ h5a O1 (Θ.set ii .gone):=by
  refine ⟨fun a ob ht z ea=>?_,.refl _ _,fun a ea=>gr5 a (x2.grow a ea),x2.later⟩
  have e':=x2.kp a ob ht (fun y=>y.elim False.elim fun l=>z (.inr l)) ea
  refine kB fl5.1 a ob (fun y=>by subst y;rw [en] at ea;cases ea) (fun f=>?_) e'
  rcases gt R1 hout hf f with rfl | ⟨j,ev,m,g1,g2⟩
  ·exact z (.inl (.inl rfl))
  ·exact z (.inr ⟨j,_,g1,g2,nox⟩)
 exact q _ h6a t6 (Nat.le_trans lA lF) ⟨rfl,vm1,O6,R6,(xA.trans nx R.len).trans x6 R.len⟩
variable {g:Array GenState} {d:Drawn} {os:OsState} {o:Obj}
theorem gK:Slot "list_iterator" "__getattribute__" "object.__getattribute__" :=
 Slot.of (owner := "object") (n := "__getattribute__") (by rw [typeLookup_type,builtinLookup_eq_fast];kernel_rfl) (by decide +kernel) (by decide +kernel) (by decide +kernel) (.inl (by decide +kernel)) (by rw [isSubtype_type];kernel_rfl)
theorem v7:entryFor table "object.__getattribute__" = some Builtin.«object.__getattribute__»:=entryFor_of_tree (by kernel_rfl)
theorem xH (a b:Value):argsOk "object.__getattribute__" ⟨[a,b],[]⟩:=by unfold argsOk;kernel_rfl
theorem w0:typeLookup (.type "list_iterator") "__next__" = pure (some (.builtin "list_iterator.__next__")):=by rw [typeLookup_type,builtinLookup_eq_fast];kernel_rfl
theorem ng:typeOf (.builtin "list_iterator.__next__") = pure (.type "wrapper_descriptor"):=by show builtinType _ = _;rw [builtinType_eq_fast];kernel_rfl
theorem m7:Slot "wrapper_descriptor" "__get__" "wrapper_descriptor.__get__" :=
 Slot.of (owner := "wrapper_descriptor") (n := "__get__") (by rw [typeLookup_type,builtinLookup_eq_fast];kernel_rfl) (by decide +kernel) (by decide +kernel) (by decide +kernel) (.inl (by decide +kernel)) (by rw [isSubtype_type];kernel_rfl)
theorem wc:entryFor table "wrapper_descriptor.__get__" = some Builtin.«wrapper_descriptor.__get__»:=entryFor_of_tree (by kernel_rfl)
theorem xL (a b c:Value):argsOk "wrapper_descriptor.__get__" ⟨[a,b,c],[]⟩:=by unfold argsOk;kernel_rfl
theorem yQ:typeLookup (.type "wrapper_descriptor") "__set__" = pure none:=by rw [typeLookup_type,builtinLookup_eq_fast];kernel_rfl
theorem yP:typeLookup (.type "wrapper_descriptor") "__delete__" = pure none:=by rw [typeLookup_type,builtinLookup_eq_fast];kernel_rfl
theorem yr:isSubtype (.type "list_iterator") (.type "list_iterator") = pure true:=by rw [isSubtype_type];kernel_rfl
theorem v0 : ".".intercalate ("list_iterator.__next__".cutAt '.').dropLast = "list_iterator":=by decide +kernel
theorem qx:isSubtype (.type "list_iterator") (.type (".".intercalate ("list_iterator.__next__".cutAt '.').dropLast)) = pure true:=by rw [v0];exact yr
theorem wa (hx:h.get? it = some o) (hc:o.cls = .type "list_iterator") (hq:R (.ok (.ret (.ref h.objs.size))) ⟨h.push (e8 it),g,d,t,os⟩) :
  codeAny (model prog w) A (.call (.builtin "wrapper_descriptor.__get__") ⟨[.builtin "list_iterator.__next__",.ref it,.type "list_iterator"],[]⟩) R ⟨h,g,d,t,os⟩:=by
 have hT:(⟨h,g,d,t,os⟩:Shared).TypeIs (.ref it) "list_iterator":=⟨_,hx,hc⟩;have hT5:(⟨h,g,d,t,os⟩:Shared).TypeIs (.builtin "list_iterator.__next__") "wrapper_descriptor":=ng;refine codeAny_call_builtin m7.plain wc (m7.check _ _ _ _ _ _ _ _ hT5 (xL _ _ _) ?_)
 have f9:=qx;repeat (any_goals (first | assumption | wp_step))
theorem sG {tk:Tok} {Q:Fin->Shared->Prop} (hx:h.get? it = some o) (hc:o.cls = .type "list_iterator") (hd:o.dict = none) {vs:Array Value} (hdt:o.data = .fields vs) (hq:Q (.done (.ret (.ref h.objs.size))) ⟨h.push (e8 it),g,d,t,os⟩) :
  wpAny (model prog w) A (Builtin.«object.__getattribute__» ⟨[.ref it,.str "__next__" tk],[]⟩) Q E ⟨h,g,d,t,os⟩:=by
 obtain ⟨oc,od,odt,osl⟩:=o;dsimp only at hc hd hdt
 subst hc hd hdt;have hT:(⟨h,g,d,t,os⟩:Shared).TypeIs (.ref it) "list_iterator":=⟨_,hx,rfl⟩;have hT5:(⟨h,g,d,t,os⟩:Shared).TypeIs (.builtin "list_iterator.__next__") "wrapper_descriptor":=ng;have f4:=w0;have f5:=ng;have f6:=m7.lookup;have f7:=yQ;have f8:=yP;repeat (any_goals (first | assumption | wp_step))
 refine wa hx rfl ?_
 exact wpAny_pure hq
theorem sd (hx:h.get? it = some o) (hc:o.cls = .type "list_iterator") (hd:o.dict = none) {vs:Array Value} (hdt:o.data = .fields vs) (hq:Q (.ref h.objs.size) ⟨h.push (e8 it),g,d,t + 1,os⟩) :
  wpAny (model prog w) A (getAttr (.ref it) "__next__" true) Q E ⟨h,g,d,t,os⟩:=by
 have L0:Looks (model prog w) h (typeOf (.ref it)) (.type "list_iterator"):=hc ▸ (Looks.ld hx).andThen .now;have L1:Looks (model prog w) h (typeLookup (.type "list_iterator") "__getattribute__") (some (.builtin "object.__getattribute__")):=Looks.of_pure gK.lookup;unfold getAttr getAttrBy;refine wpAny_bind (wpAny_mkText (wpAny_holding (wpAny_bind (L0.at (wpAny_bind (L1.at ?_))))))
 show wpAny _ _ (getAttrByItsOwn _ _ _ _ _ _) _ _ _;unfold getAttrByItsOwn;refine wpAny_bind (wpAny_pure (a:=none) ?_)
 refine wpAny_bind (wpAny_attempt (wpAny_holding ?_))
 show wpAny _ _ (boundAndCalled _ _ _) _ _ _;unfold boundAndCalled;rw [gK.bind];refine wpAny_bind (wpAny_pure (wpAny_call ?_))
 refine codeAny_call_builtin gK.plain v7 (gK.check _ _ _ _ _ _ _ _ (show (⟨h,g,d,t + 1,os⟩:Shared).TypeIs (.ref it) "list_iterator" from ⟨_,hx,hc⟩) (xH _ _) (sG hx hc hd hdt ?_))
 exact wpAny_pure hq
variable {o:Out}
theorem nj (hl:s.heap.IsList l items)
  (hQ:Q (.ref s.heap.objs.size) { s with heap:=s.heap.push { cls:=.type "list_iterator",data:=.fields #[.ref l,.int 0 0] } }):wpAny (model prog w) A (call (.builtin "iter") [.ref l]) Q E s:=by
 refine Calls.call_function_entry (by decide +kernel) (by decide +kernel) kdk_entry_iter (kdk_args_iter _) ?_
 unfold Builtin.«iter»;refine wpAny_bind (m:=PySem.someArgs "iter" 1 2 _) (wpAny_of_eq (a:=[Value.ref l]) (by first | rfl | kernel_rfl!) ?_)
 show wpAny _ _ (pyIter (.ref l) >>= _) _ _ _;refine wpAny_bind (wpAny_pyIter_list hl ?_)
 exact wpAny_pure ⟨_,rfl,hQ⟩
theorem qw (hW:Wok W T) {li:Nat} (hx:Glb W env "iter" (.builtin "iter")) (he:EVM W T n env μ Θ (eval e env) (.ref li) μ Θ) (hl:Θ[li]? = some (.mlist ds)) (hs:autoParam (starEach [e] env = [(false,eval e env)]) rfT) :
  EVM W T n env μ Θ (eval (.Attribute (.Call (.Name "iter" np) [e] [] cpos) "__next__" pos) env) (.ref (Θ.length + 1)) μ (Θ ++ [.mliter li 0,.mwrap Θ.length]):=by
 refine .of ?_;intro A s vm O M0 r t R Q E q;refine Attribute_any_ (Call_Name1 (bT hW R.gd R.fm hx ?_) hs) (by rw [arm_eval_Attribute];rfl)
 refine aO rfl rfl (Calls.evalArgs_plain (Calls.spliced_cons (he.run A s vm O M0 r t R _ _ fun v h1a tA vm1 O1 lA R1 xA dA=>Calls.spliced_nil ?_)))
 induction dA using rE with
 | ref ha=>
 rename_i a;obtain ⟨vs,pl,dl⟩:=R1.obs li a _ ha hl;refine nj (s:={ s with heap:=h1a,toks:=tA }) pl.isList ?_
 have stA:Stp W T h1a (h1a.push { cls:=.type "list_iterator",data:=.fields #[.ref a,.int 0 0] }):=.of hW R1.gd fun a o e=>Heap.get?_push_of_some _ e
 obtain ⟨R2,x2⟩:=R1.toRpH.new (a:=h1a.objs.size) (ob:=.mliter li 0) stA az R1.gd.size (by rw [Heap.get?_push_size _ rfl];rfl) ⟨a,dt ha,_,Heap.get?_push_size _ rfl,rfl,rfl⟩
 refine sd (Heap.get?_push_size _ rfl) rfl rfl rfl ?_
 have hsz:(h1a.push { cls:=.type "list_iterator",data:=.fields #[.ref a,.int 0 0] }).objs.size = h1a.objs.size + 1:=Heap.size_push ..;have stB:Stp W T (h1a.push { cls:=.type "list_iterator",data:=.fields #[.ref a,.int 0 0] }) ((h1a.push { cls:=.type "list_iterator",data:=.fields #[.ref a,.int 0 0] }).push (e8 h1a.objs.size)):=.of hW R2.gd fun a o e=>Heap.get?_push_of_some _ e
 have lenO:O1.length = Θ.length:=R1.len;obtain ⟨R3,xC⟩:=R2.new (a:=(h1a.push { cls:=.type "list_iterator",data:=.fields #[.ref a,.int 0 0] }).objs.size) (ob:=.mwrap Θ.length) stB az R2.gd.size (by rw [Heap.get?_push_size _ rfl];rfl) ⟨h1a.objs.size,by
  rw [List.getElem?_append_left (by simp [lenO]),<- lenO];simp,Heap.get?_push_size _ rfl⟩
 have xBC:=x2.trans xC R1.len;have eΘ:Θ ++ [.mliter li 0] ++ [.mwrap Θ.length] = Θ ++ [.mliter li 0,.mwrap Θ.length]:=by rw [append_assoc];rfl
 rw [eΘ] at R3 xBC;exact q _ _ (tA + 1) vm1 _ (Nat.le_trans lA (le_succ _)) (R1.called R3 xBC) (xA.trans xBC.wide R.len) (.ref (by rw [<- lenO];simp))
theorem vg (he:EVM W T n env μ Θ (eval e env) (.ref i) μ Θ) (hi:Θ[i]? = some (.mlist ds)) (hl:ds.length <= 10000) (hp:autoParam (∀ whole,isTrue e env whole = (do let v <- whole;standAt e.pos;holding [v] (truthy v))) r1T):TSM W T n env μ Θ e (!ds.isEmpty) μ Θ:=by
 refine .of ?_;intro A s vm O M0 r t R Q E q;refine isTrue_plain (he.run A s vm O M0 r t R _ E fun v h1a tA vm1 O1 lA R1 xA dA=>?_) (hp _)
 induction dA using rE with
 | ref ha=>
 rename_i a;obtain ⟨vs,pl,dl⟩:=R1.obs i a _ ha hi;have hlen:=dl.length;refine wpAny_truthy_list (s:={ s with heap:=h1a,toks:=tA }) pl.isList (by rw [List.size_toArray,hlen];omega) ?_
 have e:(!vs.toArray.isEmpty) = !ds.isEmpty:=by
  cases vs with
  | nil=>cases ds with
   | nil=>rfl
   | cons _ _=>simp at hlen
  | cons _ _=>cases ds with
   | nil=>simp at hlen
   | cons _ _=>rfl
 rw [e];exact q h1a _ vm1 O1 (Nat.le_trans lA (Nat.le_trans (le_succ _) (le_succ _))) R1 xA
theorem vO:TSM W T n env μ Θ (.Constant (.bool true) k pos) true μ Θ:=fz (be.refl _ _) (jt rr)
theorem EXA.epoch {c:Sem Flow} (hi:Θ[i]? = some (.mdict kvs none)) (h:∀ ep,EXA W T n env out j0 μ (Θ.set i (.mdict kvs (some ep))) c o):EXA W T n env out j0 μ Θ c o:=by
 refine .of ?_;intro A s vm O r kn t R Q E q;have hlt:=(List.getElem?_eq_some_iff.mp hi).1;have hlO:i < O.length:=by rw [R.len];exact hlt
 have hO:O[i]? = some O[i]:=by simp [hlO]
 obtain ⟨vk,e,De,_,dk⟩:=R.obs i _ _ hO hi;have lv:∀ b,bf O (Θ.set i (.mdict kvs (some e))) b->bf O Θ b:=jv hO hi nox;have mx:∀ b,Mx Nox O (Θ.set i (.mdict kvs (some e))) b->Mx Nox O Θ b:=fun b m=>m.imp id (lv b)
 have R':Rp W T env Nox μ (Θ.set i (.mdict kvs (some e))) s.heap vm O:=by
  refine ⟨⟨R.gd,R.live,by simp [R.len],R.nd,R.apart,R.above,R.there,fun j b ob h1 h2=>?_⟩,R.fm,fun y d e'=>?_,fun a l=>R.sep a (lv a l)⟩
  ·by_cases hj:i = j
   ·subst hj;rw [hO] at h1;cases h1;simp [hlt] at h2;subst h2
    exact ⟨vk,e,De,(fun e' q=>by cases q;rfl),dk.kseqM (fX.refl _).m (fun _ _ e=>e) fun b m _=>mx b m⟩
   ·rw [getElem?_set_ne hj] at h2;exact (R.obs j b ob h1 h2).more fun a m=>.inl (mx a m)
  ·obtain ⟨v,a,b⟩:=R.vars y d e';exact ⟨v,a,b.more fun c m=>.inl (mx c m)⟩
 have nx:Nx W (Fx env) s.heap O Θ s.heap O (Θ.set i (.mdict kvs (some e))):=⟨fun a ob _ _ e=>e,.refl _ _,fun _ e=>e,gw hi nox⟩
 exact (h e).run A s vm O r kn t R' Q E fun f h' tk le p=>q f h' tk le (p.after R.len nx)
variable {ep:Nat}
theorem vC (hW:Wok W T) (hi:Θ[i]? = some (.mdict kvs (some ep))):MKI W T (.ref i) Θ Θ.length (Θ ++ [.mkiter i 0 kvs.length ep]):=by
 refine .of ?_;intro A s O M0 v hh R dv Q E q
 induction dv using rE with
 | ref ha=>
 rename_i a;obtain ⟨vk,e,De,he,dk⟩:=R.obs i a _ ha hi;have:ep = e:=he ep rfl;subst this;refine wpAny_pyIter_dict (R.sys hW ha) De ?_
 have st:Stp W T s.heap (s.heap.push { cls:=.type "dict_keyiterator",data:=.fields #[.ref a,.int 0 0,.int vk.length 0,.int ep 0] }):=.of hW R.gd fun a o e=>Heap.get?_push_of_some _ e
 obtain ⟨R',x'⟩:=R.new (a:=s.heap.objs.size) (ob:=.mkiter i 0 kvs.length ep) st az R.gd.size (by rw [Heap.get?_push_size _ rfl];rfl) ⟨a,dt ha,_,Heap.get?_push_size _ rfl,rfl,by rw [<- dk.length];rfl⟩
 exact q _ _ s.toks _ (Nat.le_refl _) R' x' (.ref (by rw [<- R.len];simp))
theorem vq (x:bY h O M vk kvs):∀ {k:Nat} {y:Str} {d:D},kvs[k]? = some (y,d)->∃ v,vk[k]? = some (y,v):=by
 induction x with
 | nil=>intro k y d e;simp at e
 | cons z _ ih=>
  intro k y d e
  cases k with
  | zero=>simp at e;obtain ⟨rfl,rfl⟩:=e;exact ⟨_,rfl⟩
  | succ k=>obtain ⟨v,e1⟩:=ih (k:=k) (by simpa using e);exact ⟨v,by simpa using e1⟩
variable {d:D}
theorem xR (hW:Wok W T) (hii:Θ[ii]? = some (.mkiter i k kvs.length ep)) (hi:Θ[i]? = some (.mdict kvs (some ep))) (hk:kvs[k]? = some (y,d)):NXT W T ii Θ (some (.str y)) (Θ.set ii (.mkiter i (k + 1) kvs.length ep)):=by
 refine .of ?_;intro A s O M0 a hh R ha Q E q;obtain ⟨b,hb,hit⟩:=R.obs ii a _ ha hii;obtain ⟨vk,e,De,he,dk⟩:=R.obs i b _ hb hi;have:ep = e:=he ep rfl;subst this;obtain ⟨v,hv⟩:=vq dk hk;rw [<- dk.length] at hit;refine wpAny_pyNext_dict_item hit De hv fun key h' hkey hit' sb=>?_
 obtain ⟨t,rfl⟩:=Value.isStrOf_shape hkey;obtain ⟨R',x'⟩:=R.upd hW (ob':=.mkiter i (k + 1) kvs.length ep) ha hii nox nox sb ⟨b,hb,by rw [<- dk.length];exact hit'⟩
 exact q _ h' s.toks O (Nat.le_refl _) R' x' (.some (.str ..))
theorem s8 {prog:Program} {w:World} {K:Type} [DecidableEq K] {knd:KeyKind prog w K} {A:Around} {E:Value->Shared->Prop} {s:Shared} {it d:Addr} {i ep:Nat} {kvs:List (K × Value)} {Q:Option Value->Shared->Prop} (hh:A.handled = none) (hit:s.heap.IsKeyIter it d i kvs.length ep)
  (hm:s.heap.DictAt knd d kvs ep) (hx:kvs[i]? = none) (hQ:∀ h',Heap.ExtBut it s.heap h'->(h'.get? it).isSome->Q none { s with heap:=h' }):wpAny (model prog w) A (pyNext (.ref it)) Q E s:=by
 obtain ⟨ob,ho,hc,hd⟩:=id hit;obtain ⟨od,es,hod,hcd,hdd,hk,hp,hn⟩:=id hm;unfold pyNext;refine wpAny_bind (wpAny_attempt (wpAny_callSpecial?_slot (name:=Str.ofString "__next__") hit.typeIs PySem.F.slot_dict_keyiterator_next
  (wpAny_call_entry PySem.F.slot_dict_keyiterator_next hit.typeIs PySem.F.entry_dict_keyiterator_next ?_ (PySem.F.args_dict_keyiterator_next_1 _))))
 refine wpAny_bind (wpAny_pure ?_)
 refine wpAny_bind ?_
 refine wpAny_bind ?_
 first | refine wpAny_bind (wpAny_typeNameOfWhole_keyiter hit.typeIs (wpAny_pure ?_)) | refine wpAny_bind (wpAny_typeNameOf_keyiter hit.typeIs (wpAny_pure ?_))
 refine wpAny_bind (wpAny_fieldsOf ho hd ?_)
 have hown:Builtin.Dict_items.ownsTuple "dict_keyiterator" = false:=by decide
 rw [hown,if_neg Bool.false_ne_true];show wpAny _ _ (if (Value.ref d == Value.none) = true then _ else _) _ _ s
 rw [if_neg (show ¬ ((Value.ref d == Value.none) = true) from Bool.false_ne_true)]
 refine wpAny_bind (wpAny_pure ?_)
 refine wpAny_bind (wpAny_dictEntries hod hdd ?_)
 have hsz:es.size = kvs.length:=by rw [<- hp.length];simp
 rw [if_neg (by rw [hsz];simp)]
 refine wpAny_bind (wpAny_pure ?_)
 refine wpAny_bind (wpAny_dictEpoch hod hdd ?_)
 rw [if_neg (by simp)]
 refine wpAny_pure ?_
 have hge:es.size <= i:=by rw [hsz];simpa using hx
 have hp:(if (i:Int) < 0 then none else es[(i:Int).toNat]?) = none:=(if_neg (Int.not_lt.mpr (Int.natCast_nonneg i))).trans (Array.getElem?_eq_none hge)
 dsimp only
 rw [hp];refine wpAny_bind ?_
 first | refine wpAny_bind (wpAny_typeNameOfWhole_keyiter hit.typeIs (wpAny_pure ?_)) | refine wpAny_bind (wpAny_typeNameOf_keyiter hit.typeIs (wpAny_pure ?_))
 show wpAny _ _ (setField (.ref it) 0 .none >>= _) _ _ s;refine wpAny_bind (wpAny_setField ho hd (by simp) ?_)
 show wpAny _ _ (newExc (.type "StopIteration") [] >>= _) _ _ _;refine wpAny_bind ?_
 simp only [newExc,newTuple];refine wpAny_bind (wpAny_newObj_type ?_ (by size_fits))
 refine wpAny_bind (m:=firstArgMember _ _) (wpAny_of_eq (a:=Value.none) (by first | rfl | (simp only [firstArgMember];rfl)) ?_)
 refine wpAny_newObj_type ?_ (by size_fits)
 unfold raiseNew;refine wpAny_bind (wpAny_handled ?_)
 rw [show A.in1.handled = none from hh]
 refine wpAny_bind (wpAny_pure (wpAny_throw ?_))
 refine wpAny_bind (wpAny_isInstance (T := "StopIteration") (b:=true) ⟨_,Heap.get?_push_size _ rfl,rfl⟩ isSubtype_stop ?_)
 have hf:=Heap.get?_update_self (Obj.mapFields fun x=>x.setIfInBounds 0 Value.none) ho (Obj.isFreed_of_fields (Obj.data_mapFields hd _))
 exact wpAny_pure (hQ _ (((Heap.SameBut.update ..).extBut.push _).push _) (by rw [Heap.get?_push_of_some _ (Heap.get?_push_of_some _ hf)];rfl))
theorem sP (hW:Wok W T) (hii:Θ[ii]? = some (.mkiter i k kvs.length ep)) (hi:Θ[i]? = some (.mdict kvs (some ep))) (hk:kvs[k]? = none):NXT W T ii Θ none (Θ.set ii .gone):=by
 refine .of ?_;intro A s O M0 a hh R ha Q E q;obtain ⟨b,hb,hit⟩:=R.obs ii a _ ha hii;obtain ⟨vk,e,De,he,dk⟩:=R.obs i b _ hb hi;have:ep = e:=he ep rfl;subst this;rw [<- dk.length] at hit;refine s8 hh hit De (by rw [List.getElem?_eq_none_iff,dk.length];exact List.getElem?_eq_none_iff.mp hk) fun h' ex hs=>?_
 obtain ⟨R',x'⟩:=R.drop1 hW ha hii nox ex hs;exact q _ h' s.toks O (Nat.le_refl _) R' x' .none
theorem wb (hW:Wok W T) {b:Nat} (hv:EVM W T n env μ Θ (eval value env) (.ref i) μ Θ) (hb:EVM W T n env μ Θ (eval e env) (.int b) μ Θ) (hi:Θ[i]? = some (.mlist ds)) (hl:ds.length <= 1000000) (ht:autoParam (∀ o r,letTemporaryGo value o r = pure ()) r2T) :
  EVM W T n env μ Θ (eval (.Subscript value (.Slice (some e) none none p) pos) env) (.list (ds.drop b)) μ Θ:=by
 refine .of ?_;intro A s vm O M0 r t R Q E q;refine wpAny_Subscript_list_slice (hv.run A s vm O M0 r t R _ _ fun v h1a tA vm1 O1 lA R1 xA dA=>hb.run A _ vm1 O1 M0 r (Nat.le_trans t lA) R1 _ _ fun u hJ tJ vm2 O2 lB R2 x2 dB=>wpAny_pure ?_) ht
 induction dA using rE with
 | ref ha=>
 rename_i a
 induction dB using iE with
 | int tu=>
 have haB:=x2.ext.pre _ _ ha;obtain ⟨vs,pl,dl⟩:=R2.obs i a _ haB hi;have kJ:=R2.toRpH.ok (s:={ s with heap:=hJ,toks:=tJ }) (Nat.le_trans t (Nat.le_trans lA lB))
 obtain ⟨st,dn⟩:=jn hW (vl:=.int b tu) (vu:=.none) R2.gd (fun a m=>(kJ.live a m).2) (dl.drop b)
 refine ⟨a,vs.toArray,some (b:Int),none,rfl,pl.isList,by rw [List.size_toArray,dl.length,sizeLine_eq];omega,.int _ _,.none,?_⟩
 rw [slicePick_from'];exact q _ _ tJ vm2 O2 (Nat.le_trans lA lB) (R2.step st) ((xA.trans x2 R.len).trans (.of st) R.len) dn
variable {r:Expr} {op:Operator}
theorem um {l:Expr} {a b:D} (hl:EVM W T n env μ Θ (eval l env) a μ' Θ') (hr:EVM W T n env μ' Θ' (eval r env) b μ'' Θ'') (ho:OPP W T op a b d):EVM W T n env μ Θ (eval (.BinOp l op r pos) env) d μ'' Θ'':=by
 refine .of ?_;intro A s vm O M0 rm t R Q E q;refine wpAny_BinOp (hl.run A s vm O M0 rm t R _ _ fun x h1a tA vm1 O1 lA R1 xA dA=>?_)
 refine hr.run A _ vm1 O1 M0 rm (Nat.le_trans t lA) R1 _ _ fun y hJ tJ vm2 O2 lB R2 x2 dB=>?_
 have tt:0 <= tJ:=Nat.le_trans t (Nat.le_trans lA lB);refine ho.run A _ O2 _ x y rm.handled rm.c (R2.toRpH.ok tt) (dA.nx R1 x2) dB Q E fun v h3a tC l3 sC d3=>?_
 exact q v h3a tC vm2 O2 (Nat.le_trans lA (Nat.le_trans lB l3)) (R2.step sC) ((xA.trans x2 R.len).trans (.of sC) R.len) d3
theorem q3 (hW:Wok W T) {bs:List D} (hl:as.length + bs.length <= 10000):OPP W T .Add (.list as) (.list bs) (.list (as ++ bs)):=by
 refine .of ?_;intro A s O M x y _ _ k dx dy Q E hQ
 induction dx using lE with
 | list pl nm dl=>
 induction dy using lE with
 | list pl2 nm2 dlB=>
 rename_i a vs b ws;obtain ⟨j,e⟩:=pl;obtain ⟨jB,eJ⟩:=pl2;have st:Stp W T s.heap (s.heap.push { cls:=.type "list",data:=.seq (vs ++ ws).toArray }):=.of hW k.gd fun a o e=>Heap.get?_push_of_some _ e
 have hq:=hQ (.ref s.heap.objs.size) _ s.toks (Nat.le_refl _) st (.list ⟨0,Heap.get?_push_size _ rfl⟩ (ij k (.refl k.gd)) ((dl.append dlB).st k.gd st.kp));have e3:vs.toArray ++ ws.toArray = (vs ++ ws).toArray:=by simp
 refine P.add_list e eJ (by rw [e3];exact hq) (by rw [List.size_toArray,List.size_toArray,dl.length,dlB.length,sizeLine_eq];omega)
section
structure FS where
 vis:List (Nat × Option Nat)
 stk:List Nat
noncomputable def FS.idOf (st:FS) (v:Nat):Nat:=match st.vis[v]? with
 | some p=>p.1
 | none=>0
noncomputable def FS.ids (st:FS):List Nat:=st.stk.reverse.map st.idOf
noncomputable def FS.seen (st:FS) (x:Nat):Bool:=st.vis.any fun p=>decide (p.1 = x)
noncomputable def FS.on (st:FS) (x:Nat):Bool:=st.stk.any fun v=>decide (st.idOf v = x)
noncomputable def FS.push (st:FS) (x:Nat):FS:=⟨st.vis ++ [(x,some 0)],st.vis.length :: st.stk⟩
noncomputable def FS.ring (st:FS) (x:Nat):List Nat:=st.ids.drop (st.ids.idxOf x) ++ [x]
noncomputable def jm (sc:Nat->List Nat):Nat->FS->Option (FS × Option Nat)
 | 0,_=>none
 | n + 1,st=>match st.stk with
  | []=>some (st,none)
  | v :: rest=>match st.vis[v]? with
   | some (id,some k)=>(match (sc id)[k]? with
    | some x=>some (⟨st.vis.set v (id,some (k + 1)),v :: rest⟩,some x)
    | none=>jm sc n ⟨st.vis.set v (id,none),rest⟩)
   | _=>none
noncomputable def jg (sc:Nat->List Nat) (m:Nat):Nat->FS->Nat->Option (FS × Option (List Nat))
 | 0,_,_=>none
 | n + 1,st,x=>
  if st.seen x && st.on x then some (st,some (st.ring x))
  else match jm sc m (if st.seen x then st else st.push x) with
   | none=>none
   | some (st',none)=>some (st',none)
   | some (st',some y)=>jg sc m n st' y
noncomputable def dR (sc:Nat->List Nat) (m:Nat):List Nat->FS->Option (Option (List Nat))
 | [],_=>some none
 | x :: r,st=>if st.seen x then dR sc m r st else match jg sc m m st x with
  | none=>none
  | some (_,some ring)=>some (some ring)
  | some (st',none)=>dR sc m r st'
noncomputable def kt (l:Nat):Option Nat->ac
 | some k=>.mliter l k
 | none=>.gone
section
variable (tx:Nat->Str) (li:Nat->Nat)
noncomputable def cW:Nat->List (Nat × Option Nat)->List ac
 | _,[]=>[]
 | c,(id,k) :: r=>kt (li id) k :: .mwrap c :: cW (c + 2) r
noncomputable def fT (base:List ac) (ki:ac) (st:FS):List ac:=
 base ++ ([.mlist (st.ids.map fun x=>.str (tx x)),.mlist (st.stk.reverse.map fun v=>.ref (base.length + 6 + 2 * v)),.mset (st.vis.map fun p=>tx p.1),.mdict (st.ids.zipIdx.map fun p=>(tx p.1,.int p.2)) none,ki] ++ cW li (base.length + 5) st.vis)
theorem oI:∀ (c:Nat) (vis:List (Nat × Option Nat)),(cW li c vis).length = 2 * vis.length
 | _,[]=>rfl
 | c,(id,k) :: r=>by rw [cW,length_cons,length_cons,oI (c + 2) r,length_cons];omega
theorem nR:∀ (c:Nat) (vis:List (Nat × Option Nat)) (id k:Nat),cW li c (vis ++ [(id,some k)]) = cW li c vis ++ [.mliter (li id) k,.mwrap (c + 2 * vis.length)]
 | c,[],id,k=>by simp [cW,kt]
 | c,(i,j) :: r,id,k=>by
  rw [List.cons_append,cW,nR (c + 2) r id k,cW,length_cons];have:c + 2 + 2 * r.length = c + 2 * (r.length + 1):=by omega
  rw [this];rfl
theorem nQ (vis:List (Nat × Option Nat)):∀ (c v id:Nat) (k:Option Nat),vis[v]? = some (id,k)->(cW li c vis)[2 * v]? = some (kt (li id) k) /\ (cW li c vis)[2 * v + 1]? = some (.mwrap (c + 2 * v)):=by
 induction vis with
 | nil=>intro c v id k e;simp at e
 | cons p r ih=>
  intro c v id k e;obtain ⟨i,j⟩:=p
  cases v with
  | zero=>simp at e;obtain ⟨rfl,rfl⟩:=e;exact ⟨rfl,rfl⟩
  | succ v=>
   obtain ⟨h1,h2⟩:=ih (c + 2) v id k (by simpa using e)
   have e1:2 * (v + 1) = 2 * v + 1 + 1:=by omega
   have e2:c + 2 + 2 * v = c + 2 * (v + 1):=by omega
   rw [cW,e1];refine ⟨by simpa using h1,?_⟩
   rw [<- e1,<- e2];have e3:2 * (v + 1) + 1 = 2 * v + 1 + 1 + 1:=by omega
   rw [e3];simpa using h2
theorem uq (vis:List (Nat × Option Nat)):∀ (c v id:Nat) (k k':Option Nat),vis[v]? = some (id,k)->(cW li c vis).set (2 * v) (kt (li id) k') = cW li c (vis.set v (id,k')):=by
 induction vis with
 | nil=>intro c v id k k' e;simp at e
 | cons p r ih=>
  intro c v id k k' e;obtain ⟨i,j⟩:=p
  cases v with
  | zero=>simp at e;obtain ⟨rfl,rfl⟩:=e;rfl
  | succ v=>
   have e1:2 * (v + 1) = 2 * v + 1 + 1:=by omega
   rw [e1,List.set_cons_succ];show _ :: _ :: _ = _ :: _ :: _;rw [ih (c + 2) v id k k' (by simpa using e)]
variable {tx li}
theorem lV {base:List ac} {ki:ac} {st:FS} {i:Nat} {o:ac} (h:base[i]? = some o):(fT tx li base ki st)[i]? = some o:=by
 unfold fT;rw [List.getElem?_append_left (List.getElem?_eq_some_iff.mp h).1];exact h
theorem mX {base:List ac} {ki:ac} {st:FS}:(fT tx li base ki st)[base.length]? = some (.mlist (st.ids.map fun x=>.str (tx x))):=by unfold fT;rw [getElem?_append_right (Nat.le_refl _)];simp
theorem se {base:List ac} {ki:ac} {st:FS}:(fT tx li base ki st)[base.length + 1]? = some (.mlist (st.stk.reverse.map fun v=>.ref (base.length + 6 + 2 * v))):=by unfold fT;rw [getElem?_append_right (by omega)];simp
theorem yo {base:List ac} {ki:ac} {st:FS}:(fT tx li base ki st)[base.length + 2]? = some (.mset (st.vis.map fun p=>tx p.1)):=by unfold fT;rw [getElem?_append_right (by omega)];simp
theorem sm {base:List ac} {ki:ac} {st:FS}:(fT tx li base ki st)[base.length + 3]? = some (.mdict (st.ids.zipIdx.map fun p=>(tx p.1,.int p.2)) none):=by unfold fT;rw [getElem?_append_right (by omega)];simp
theorem y5 {base:List ac} {ki:ac} {st:FS}:(fT tx li base ki st)[base.length + 4]? = some ki:=by unfold fT;rw [getElem?_append_right (by omega)];simp
theorem wN {base:List ac} {ki:ac} {st:FS} (c:Nat):(fT tx li base ki st)[base.length + 5 + c]? = (cW li (base.length + 5) st.vis)[c]?:=by
 unfold fT;rw [getElem?_append_right (by omega),getElem?_append_right (by simp;omega)]
 congr 1;simp;omega
theorem zr {base:List ac} {ki:ac} {st:FS} {v id:Nat} {k:Option Nat} (h:st.vis[v]? = some (id,k)):(fT tx li base ki st)[base.length + 5 + 2 * v]? = some (kt (li id) k):=(wN _).trans (nQ li _ _ _ _ _ h).1
theorem zo {base:List ac} {ki:ac} {st:FS} {v id:Nat} {k:Option Nat} (h:st.vis[v]? = some (id,k)):(fT tx li base ki st)[base.length + 6 + 2 * v]? = some (.mwrap (base.length + 5 + 2 * v)):=by
 have e:base.length + 6 + 2 * v = base.length + 5 + (2 * v + 1):=by omega
 rw [e,wN,(nQ li _ _ _ _ _ h).2]
theorem yZ {base:List ac} {ki:ac} {st:FS}:(fT tx li base ki st).length = base.length + 5 + 2 * st.vis.length:=by unfold fT;rw [length_append,length_append,oI];simp;omega
structure FOk (N:Nat) (is:List ao) (st:FS):Prop where
 nd:(st.vis.map (·.1)).Nodup
 lt:∀ p ∈ st.vis,p.1 < N /\ (ixI is p.1).isSome = true
 snd:st.stk.Nodup
 son:∀ v ∈ st.stk,∃ id k,st.vis[v]? = some (id,some k)
theorem FOk.idOf {N:Nat} {is:List ao} {st:FS} {v id:Nat} {k:Option Nat} (h:st.vis[v]? = some (id,k)):st.idOf v = id:=by unfold FS.idOf;rw [h]
theorem FOk.ids_nd {N:Nat} {is:List ao} {st:FS} (ok:FOk N is st):st.ids.Nodup:=by
 unfold FS.ids;rw [List.Nodup,List.pairwise_map];have h1:st.stk.reverse.Nodup:=by
  unfold List.Nodup;rw [List.pairwise_reverse];exact ok.snd.imp fun h=>Ne.symm h
 refine (List.pairwise_iff_getElem.mp h1 |> fun h=>List.pairwise_iff_getElem.mpr fun i j hi hj hij=>?_)
 have hne:=h i j hi hj hij;obtain ⟨a,ka,ha⟩:=ok.son st.stk.reverse[i] (List.mem_reverse.mp (getElem_mem hi));obtain ⟨b,kb,hb⟩:=ok.son st.stk.reverse[j] (List.mem_reverse.mp (getElem_mem hj));rw [FOk.idOf (N:=N) (is:=is) ha,FOk.idOf (N:=N) (is:=is) hb];intro q;subst q;have n1:(st.vis.map (·.1))[st.stk.reverse[i]]? = some a:=by rw [getElem?_map,ha];rfl
 have n2:(st.vis.map (·.1))[st.stk.reverse[j]]? = some a:=by rw [getElem?_map,hb];rfl
 exact hne (eF ok.nd n1 n2)
theorem FOk.ids_lt {N:Nat} {is:List ao} {st:FS} (ok:FOk N is st):∀ x ∈ st.ids,x < N:=fun x hx=>by
 obtain ⟨v,hv,rfl⟩:=List.mem_map.mp hx;obtain ⟨id,k,h⟩:=ok.son v (List.mem_reverse.mp hv);rw [FOk.idOf (N:=N) (is:=is) h];exact (ok.lt _ (mem_of_getElem? h)).1
theorem FOk.len {N:Nat} {is:List ao} {st:FS} (ok:FOk N is st):st.vis.length <= N:=by
 have:=dU ok.nd (fun x hx=>by obtain ⟨p,hp,rfl⟩:=List.mem_map.mp hx;exact (ok.lt p hp).1)
 simpa using this
theorem FOk.slen {N:Nat} {is:List ao} {st:FS} (ok:FOk N is st):st.stk.length <= N:=by
 have:=dU ok.ids_nd ok.ids_lt;simpa [FS.ids] using this
theorem gZ {N:Nat} (hT:cY tx N) {x:Nat} (hx:x < N):∀ (l:List Nat) (k:Nat),(∀ y ∈ l,y < N)->((l.zipIdx k).map fun p=>(tx p.1,D.int (p.2:Nat))).lookup (tx x) = if x ∈ l then some (.int ((k + l.idxOf x:Nat):Int)) else none
 | [],k,_=>by simp
 | y :: l,k,h=>by
  rw [List.zipIdx_cons,map_cons,dP];by_cases hxy:y = x
  ·subst hxy;simp
  ·have h1:¬ tx y = tx x:=fun q=>hxy (hT _ _ (h y (.head _)) hx q)
   rw [if_neg h1,gZ hT hx l (k + 1) fun z hz=>h z (.tail _ hz)]
   have h2:¬ x = y:=fun q=>hxy q.symm
   by_cases h3:x ∈ l
   ·simp only [h3,if_true,List.mem_cons,or_true];have:(y :: l).idxOf x = l.idxOf x + 1:=by
     rw [List.idxOf_cons,show (y == x) = false by simp [hxy]];rfl
    rw [this];congr 2;omega
   ·simp [h3,h2]
theorem xF {N:Nat} (hT:cY tx N) {x:Nat} (hx:x < N) (l:List Nat) (k:Nat) (hl:∀ y ∈ l,y < N) (hn:x ∉ l):jP (((l ++ [x]).zipIdx k).map fun p=>(tx p.1,D.int (p.2:Nat))) (tx x) = (l.zipIdx k).map fun p=>(tx p.1,D.int (p.2:Nat)):=by
 unfold jP;rw [List.zipIdx_append,map_append,List.filter_append];have h1:((l.zipIdx k).map fun p=>(tx p.1,D.int (p.2:Nat))).filter (fun p=>decide (p.1 ≠ tx x)) = (l.zipIdx k).map fun p=>(tx p.1,D.int (p.2:Nat)):=by
  rw [List.filter_eq_self];intro p hp;obtain ⟨q,hq,rfl⟩:=List.mem_map.mp hp;have hm:q.1 ∈ l:=List.fst_mem_of_mem_zipIdx hq;simp only [decide_eq_true_eq];exact fun e=>hn (hT _ _ (hl _ hm) hx e ▸ hm)
 rw [h1];simp
end
end
section
theorem ow {α:Type} {m:Str->Option α} {x:Str} {a b:α}:upd (upd m x a) x b = upd m x b:=by
 funext y;unfold upd;split <;> rfl
theorem m8 {vis:List (Nat × Option Nat)} {v id:Nat} {k k':Option Nat} (h:vis[v]? = some (id,k)):(vis.set v (id,k')).map (·.1) = vis.map (·.1):=by
 have hlt:=(List.getElem?_eq_some_iff.mp h).1;rw [map_set];apply ext_getElem?
 intro j;by_cases hj:v = j
 ·subst hj;rw [getElem?_set_self (by simpa using hlt),getElem?_map,h];rfl
 ·rw [getElem?_set_ne hj]
theorem pw {st:FS} {v id:Nat} {k k':Option Nat} {s':List Nat} (h:st.vis[v]? = some (id,k)) (u:Nat):(FS.mk (st.vis.set v (id,k')) s').idOf u = st.idOf u:=by
 unfold FS.idOf;have hlt:=(List.getElem?_eq_some_iff.mp h).1;by_cases hu:v = u
 ·subst hu;simp only [getElem?_set_self hlt,h]
 ·simp only [getElem?_set_ne hu]
theorem FOk.next {N:Nat} {is:List ao} {st:FS} {v id k:Nat} {rest:List Nat} (ok:FOk N is st) (hs:st.stk = v :: rest) (h:st.vis[v]? = some (id,some k)):FOk N is ⟨st.vis.set v (id,some (k + 1)),v :: rest⟩:=by
 have hlt:=(List.getElem?_eq_some_iff.mp h).1;refine ⟨by rw [m8 h];exact ok.nd,fun p hp=>?_,hs ▸ ok.snd,fun u hu=>?_⟩
 ·rcases mem_or_eq_of_mem_set hp with q | q
  ·exact ok.lt p q
  ·rw [q];exact (ok.lt (id,some k) (mem_of_getElem? h))
 ·by_cases hj:v = u
  ·subst hj;exact ⟨id,k + 1,getElem?_set_self hlt⟩
  ·obtain ⟨a,b,e⟩:=ok.son u (hs ▸ hu);exact ⟨a,b,by show (st.vis.set v _)[u]? = _;rw [getElem?_set_ne hj];exact e⟩
theorem FOk.pop {N:Nat} {is:List ao} {st:FS} {v id k:Nat} {rest:List Nat} (ok:FOk N is st) (hs:st.stk = v :: rest) (h:st.vis[v]? = some (id,some k)):FOk N is ⟨st.vis.set v (id,none),rest⟩:=by
 have snd:=ok.snd;rw [hs,List.nodup_cons] at snd;refine ⟨by rw [m8 h];exact ok.nd,fun p hp=>?_,snd.2,fun u hu=>?_⟩
 ·rcases mem_or_eq_of_mem_set hp with q | q
  ·exact ok.lt p q
  ·rw [q];exact (ok.lt (id,some k) (mem_of_getElem? h))
 ·have hj:v ≠ u:=fun q=>snd.1 (q ▸ hu)
  obtain ⟨a,b,e⟩:=ok.son u (hs ▸ .tail _ hu);exact ⟨a,b,by show (st.vis.set v _)[u]? = _;rw [getElem?_set_ne hj];exact e⟩
theorem lG {st:FS} {x:Nat}:st.seen x = true ↔ x ∈ st.vis.map (·.1):=by
 unfold FS.seen;rw [List.any_eq_true,List.mem_map];exact ⟨fun ⟨p,hp,e⟩=>⟨p,hp,by simpa using e⟩,fun ⟨p,hp,e⟩=>⟨p,hp,by simpa using e⟩⟩
theorem FOk.push {N:Nat} {is:List ao} {st:FS} {x:Nat} (ok:FOk N is st) (hx:x < N /\ (ixI is x).isSome = true) (hn:st.seen x = false):FOk N is (st.push x):=by
 have hx':x ∉ st.vis.map (·.1):=fun q=>by rw [lG.mpr q] at hn;cases hn
 have hlt:∀ v ∈ st.stk,v < st.vis.length:=fun v hv=>by obtain ⟨a,b,e⟩:=ok.son v hv;exact (List.getElem?_eq_some_iff.mp e).1
 refine ⟨?_,fun p hp=>?_,?_,fun u hu=>?_⟩
 ·show ((st.vis ++ [(x,some 0)]).map (fun p:Nat × Option Nat=>p.1)).Nodup
  rw [map_append,List.nodup_append];exact ⟨ok.nd,by simp,fun a ha b hb=>by simp at hb;subst hb;exact fun q=>hx' (q ▸ ha)⟩
 ·rcases List.mem_append.mp hp with q | q
  ·exact ok.lt p q
  ·simp at q;subst q;exact hx
 ·show (st.vis.length :: st.stk).Nodup;rw [List.nodup_cons];exact ⟨fun q=>Nat.lt_irrefl _ (hlt _ q),ok.snd⟩
 ·rcases List.mem_cons.mp hu with rfl | q
  ·exact ⟨x,0,by show (st.vis ++ [(x,some 0)])[_]? = _;simp⟩
  ·obtain ⟨a,b,e⟩:=ok.son u q;exact ⟨a,b,by show (st.vis ++ [(x,some 0)])[u]? = _;rw [List.getElem?_append_left (hlt u q)];exact e⟩
section
variable {μ0:Str->Option D} {li:Nat->Nat} {base:List ac} {ki:ac} {sc:Nat->List Nat}
noncomputable abbrev μn (μ0:Str->Option D) (tx:Nat->Str) (x:Nat):Str->Option D:=upd μ0 "node" (.str (tx x))
noncomputable def lJ (μ0:Str->Option D) (tx:Nat->Str) (li:Nat->Nat) (base:List ac) (ki:ac) (x:Nat) (st':FS):Option Nat->Out
 | some y=>.nxt (μn μ0 tx y) (fT tx li base ki st')
 | none=>.brk (μn μ0 tx x) (fT tx li base ki st')
theorem oC {test:Expr} {body orelse:List Stmt} (x:Nat) (hsc:∀ id y,y ∈ sc id->y < N /\ (ixI is y).isSome = true)
  (htest:∀ st,FOk N is st->TSM W T n env (μn μ0 tx x) (fT tx li base ki st) test (!st.stk.isEmpty) (μn μ0 tx x) (fT tx li base ki st))
  (hitem:∀ st v id k rest y,FOk N is st->st.stk = v :: rest->st.vis[v]? = some (id,some k)->(sc id)[k]? = some y->EXA W T n env out j0 (μn μ0 tx x) (fT tx li base ki st) (execs body env) (.brk (μn μ0 tx y) (fT tx li base ki ⟨st.vis.set v (id,some (k + 1)),v :: rest⟩)))
  (hstop:∀ st v id k rest,FOk N is st->st.stk = v :: rest->st.vis[v]? = some (id,some k)->(sc id)[k]? = none->EXA W T n env out j0 (μn μ0 tx x) (fT tx li base ki st) (execs body env) (.nxt (μn μ0 tx x) (fT tx li base ki ⟨st.vis.set v (id,none),rest⟩)))
  (hels:∀ Θ,EXA W T n env out j0 (μn μ0 tx x) Θ (execs orelse env) (.brk (μn μ0 tx x) Θ)) :
  ∀ (m:Nat) (st st':FS) (r:Option Nat),jm sc m st = some (st',r)->FOk N is st->WHA W T n env out j0 test body orelse m (μn μ0 tx x) (fT tx li base ki st) (lJ μ0 tx li base ki x st' r) /\ FOk N is st' /\ ∀ y,r = some y->y < N /\ (ixI is y).isSome = true
 | 0,st,st',r,h,ok=>by cases h
 | m + 1,st,st',r,h,ok=>by
  rw [jm] at h
  cases hs:st.stk with
  | nil=>
   rw [hs] at h;cases h;have ht:=htest st ok;rw [hs] at ht;exact ⟨.stop ht (hels _),ok,fun y q=>by cases q⟩
  | cons v rest=>
   rw [hs] at h;obtain ⟨id,k,hv⟩:=ok.son v (hs ▸ .head _);simp only [hv] at h;have ht:=htest st ok;rw [hs] at ht
   cases hk:(sc id)[k]? with
   | some y=>
    simp only [hk] at h;cases h;exact ⟨.brk ht (hitem st v id k rest y ok hs hv hk),ok.next hs hv,fun z q=>by cases q;exact hsc id _ (mem_of_getElem? hk)⟩
   | none=>
    simp only [hk] at h;obtain ⟨h1,h2,h3⟩:=oC x hsc htest hitem hstop hels m _ st' r h (ok.pop hs hv);exact ⟨.turn ht (hstop st v id k rest ok hs hv hk) h1,h2,h3⟩
end
end
section
theorem FMA.trunc {fr:List Env} {f:Value} {as:List D} {d:D} (h:FMA W T n fr f as Θ d (Θ' ++ G)) (hl:(Θ'.all fun o=>o.lo Θ'.length) = true) (hd:d.lo Θ'.length = true) (hle:Θ.length <= Θ'.length):FMA W T n fr f as Θ d Θ':=by
 refine .of ?_;intro A s O vals r fr' t R V P q;refine h.code A s O vals r fr' t R V P fun v h' tk O' le R' x dv=>?_
 refine q v h' tk _ le (R'.trunc hl) (x.trunc R.len hle) (dv.lo (k:=Θ'.length) (fun i a hi e=>by rw [getElem?_take_of_lt hi];exact e) (fun a m=>m.imp id fun ⟨i,o,h1,h2,h3⟩=>?_) hd)
 have h4:=(List.getElem?_eq_some_iff.mp h2).1;exact ⟨i,o,by rw [getElem?_take_of_lt h4] at h1;exact h1,by rw [List.getElem?_append_left h4];exact h2,h3⟩
section
variable {μ0:Str->Option D} {li:Nat->Nat} {base:List ac} {sc:Nat->List Nat}
noncomputable def lM (μ0:Str->Option D) (tx:Nat->Str) (li:Nat->Nat) (base:List ac) (ki:ac) (z:Nat) (st':FS):Option (List Nat)->Out
 | some ring=>.ret (.list (ring.map fun j=>.str (tx j))) (fT tx li base ki st')
 | none=>.nxt (μn μ0 tx z) (fT tx li base ki st')
theorem oq {ki:ac} {test:Expr} {body:List Stmt} {m:Nat}
  (htest:∀ x st,TSM W T n env (μn μ0 tx x) (fT tx li base ki st) test true (μn μ0 tx x) (fT tx li base ki st))
  (hret:∀ x st,FOk N is st->x < N->st.seen x = true->st.on x = true->EXA W T n env out j0 (μn μ0 tx x) (fT tx li base ki st) (execs body env) (.ret (.list ((st.ring x).map fun j=>.str (tx j))) (fT tx li base ki st)))
  (hgo:∀ x st st' r,FOk N is st->x < N->(ixI is x).isSome = true->(st.seen x && st.on x) = false->jm sc m (if st.seen x then st else st.push x) = some (st',r)->EXA W T n env out j0 (μn μ0 tx x) (fT tx li base ki st) (execs body env) (lJ μ0 tx li base ki x st' r) /\ FOk N is st' /\ ∀ y,r = some y->y < N /\ (ixI is y).isSome = true) :
  ∀ (k:Nat) (st:FS) (x:Nat) (st':FS) (r:Option (List Nat)),jg sc m k st x = some (st',r)->FOk N is st->x < N->(ixI is x).isSome = true->∃ z,WHA W T n env out j0 test body [] k (μn μ0 tx x) (fT tx li base ki st) (lM μ0 tx li base ki z st' r) /\ FOk N is st'
 | 0,st,x,st',r,h,_,_,_=>by cases h
 | k + 1,st,x,st',r,h,ok,hx,hi=>by
  rw [jg] at h
  cases hb:(st.seen x && st.on x) with
  | true=>
   rw [if_pos hb] at h;cases h;rw [Bool.and_eq_true] at hb;exact ⟨x,.ret (htest x st) (hret x st ok hx hb.1 hb.2),ok⟩
  | false=>
   rw [if_neg (by rw [hb];decide)] at h
   cases hn:jm sc m (if st.seen x then st else st.push x) with
   | none=>rw [hn] at h;cases h
   | some p=>
    obtain ⟨s1,r1⟩:=p;obtain ⟨h1,h2,h3⟩:=hgo x st s1 r1 ok hx hi hb hn;rw [hn] at h
    cases r1 with
    | none=>cases h;exact ⟨x,.brk (htest x st) h1,h2⟩
    | some y=>
     obtain ⟨y1,y2⟩:=h3 y rfl;obtain ⟨z,w1,w2⟩:=oq htest hret hgo k s1 y st' r h h2 y1 y2;exact ⟨z,.turn (htest x st) h1 w1,w2⟩
theorem qD {ki ki':ac} {st:FS}:(fT tx li base ki st).set (base.length + 4) ki' = fT tx li base ki' st:=by
 unfold fT;rw [set_append_right _ _ (by omega)]
 congr 1
 have:base.length + 4 - base.length = 4:=by omega
 rw [this];rfl
noncomputable def tN (tx:Nat->Str) (Θf:List ac) (μ:Str->Option D):Option (List Nat)->Out
 | some ring=>.ret (.list (ring.map fun j=>.str (tx j))) Θf
 | none=>.nxt μ Θf
theorem sK (hW:Wok W T) {di ep:Nat} {kvs:List (Str × D)} {ks:List Nat} {px:Pos} {ifs:Stmt} {test:Expr} {body:List Stmt} {wpos:Pos} {m:Nat} (hd:base[di]? = some (.mdict kvs (some ep))) (hks:kvs.map (·.1) = ks.map tx) (hok:∀ x ∈ ks,x < N /\ (ixI is x).isSome = true) (hn:Sto env "node" = true)
  (hseen:∀ ki x st,x < N->FOk N is st->EXA W T n env out j0 (μn μ0 tx x) (fT tx li base ki st) (exec ifs env) (if st.seen x then .cont (μn μ0 tx x) (fT tx li base ki st) else .nxt (μn μ0 tx x) (fT tx li base ki st)))
  (hgo:∀ ki st x st' r,jg sc m m st x = some (st',r)->FOk N is st->x < N->(ixI is x).isSome = true->∃ z,WHA W T n env out j0 test body [] m (μn μ0 tx x) (fT tx li base ki st) (lM μ0 tx li base ki z st' r) /\ FOk N is st') :
  ∀ (c k:Nat) (st:FS) (r:Option (List Nat)) (μ:Str->Option D),(∃ z,μ = μn μ0 tx z) \/ μ = μ0->k + c = ks.length->dR sc m (ks.drop k) st = some r->FOk N is st->
   ∃ Θf μ',(∃ ki' st',Θf = fT tx li base ki' st') /\ LTA W T n env out j0 (.Name "node" px) [ifs,.While test body [] wpos] (base.length + 4) c μ (fT tx li base (.mkiter di k kvs.length ep) st) (tN tx Θf μ' r):=by
 have hlen:kvs.length = ks.length:=by have:=congrArg List.length hks;simpa using this
 have hset:∀ {μ:Str->Option D},((∃ z,μ = μn μ0 tx z) \/ μ = μ0)->∀ x,upd μ "node" (.str (tx x)) = μn μ0 tx x:=fun hμ x=>by
  rcases hμ with ⟨z,rfl⟩ | rfl
  ·exact ow
  ·rfl
 intro c
 induction c with
 | zero=>
  intro k st r μ hμ hc h ok;have hk:ks.drop k = []:=List.drop_eq_nil_of_le (by omega)
  rw [hk] at h;cases h;refine ⟨_,μ,⟨.gone,st,rfl⟩,?_⟩
  have:=sP (Θ:=fT tx li base (.mkiter di k kvs.length ep) st) hW y5 (lV hd) (List.getElem?_eq_none_iff.mpr (by omega))
  rw [qD] at this;exact .done this
 | succ c ih=>
  intro k st r μ hμ hc h ok;have hk:k < ks.length:=by omega
  have hdr:ks.drop k = ks[k] :: ks.drop (k + 1):=drop_eq_getElem_cons hk;rw [hdr,dR] at h;obtain ⟨hx,hxi⟩:=hok ks[k] (getElem_mem hk);have hkk:k < kvs.length:=by omega
  have hy:kvs[k].1 = tx ks[k]:=by
   have:=congrArg (fun l=>l[k]?) hks
   simp only [getElem?_map,List.getElem?_eq_getElem hk,List.getElem?_eq_getElem hkk] at this;simpa using this
  have nx:NXT W T (base.length + 4) (fT tx li base (.mkiter di k kvs.length ep) st) (some (.str (tx ks[k]))) (fT tx li base (.mkiter di (k + 1) kvs.length ep) st):=by
   have:=xR (Θ:=fT tx li base (.mkiter di k kvs.length ep) st) hW y5 (lV hd) (k:=k) (y:=kvs[k].1) (d:=kvs[k].2) (List.getElem?_eq_getElem hkk);rw [qD,hy] at this;exact this
  have as:ASG W T n env (.Name "node" px) (.str (tx ks[k])) μ (μn μ0 tx ks[k]):=by
   rw [<- hset hμ];exact ay hW hn
  have hif:=hseen (.mkiter di (k + 1) kvs.length ep) ks[k] st hx ok
  cases hb:st.seen ks[k] with
  | true=>
   rw [if_pos hb] at h;rw [hb,if_pos rfl] at hif;obtain ⟨Θf,μ',hf,w⟩:=ih (k + 1) st r _ (.inl ⟨_,rfl⟩) (by omega) h ok
   exact ⟨Θf,μ',hf,.cont nx as (bn hif rfl) w⟩
  | false=>
   rw [if_neg (by rw [hb];decide)] at h
   rw [hb,if_neg (by decide)] at hif
   cases ho:jg sc m m st ks[k] with
   | none=>rw [ho] at h;cases h
   | some p=>
    obtain ⟨s1,r1⟩:=p;rw [ho] at h;obtain ⟨z,w1,w2⟩:=hgo (.mkiter di (k + 1) kvs.length ep) st ks[k] s1 r1 ho ok hx hxi
    cases r1 with
    | some ring=>
     cases h;exact ⟨_,μ,⟨_,s1,rfl⟩,.ret nx as (aE hif (bn (iq w1) rfl))⟩
    | none=>
     obtain ⟨Θf,μ',hf,w⟩:=ih (k + 1) s1 r _ (.inl ⟨z,rfl⟩) (by omega) h w2
     exact ⟨Θf,μ',hf,.turn nx as (aE hif (aE (iq w1) ar.a)) w⟩
end
end
section
theorem re {body:List Stmt} {h0a:ExceptHandler} {hs:List ExceptHandler} {pos:Pos} (hb:EXA W T n env out j0 μ Θ (execs body env) (.brk μ' Θ')):EXA W T n env out j0 μ Θ (exec (.Try body (h0a :: hs) [] [] pos) env) (.brk μ' Θ'):=by
 refine .of ?_;intro A s vm O r kn t R Q E q;refine wpAny_Try_except (hb.run A s vm O r kn t R _ _ fun f h' tk le p=>?_)
 have q':=q f h' tk le p;obtain ⟨rfl,_⟩:=p;exact q'
theorem EXA.nxtT {c:Sem Flow} {Θ'':List ac} (h:EXA W T n env out j0 μ Θ c (.nxt μ' Θ')) (e:Θ' = Θ''):EXA W T n env out j0 μ Θ c (.nxt μ' Θ''):=e ▸ h
theorem EXA.brkT {c:Sem Flow} {Θ'':List ac} (h:EXA W T n env out j0 μ Θ c (.brk μ' Θ')) (e:Θ' = Θ''):EXA W T n env out j0 μ Θ c (.brk μ' Θ''):=e ▸ h
structure FE (W:Wd) (env:Env) (μ0:Str->Option D) (tx:Nat->Str) (li:Nat->Nat) (base:List ac) (N:Nat) (is:List ao) (sc:Nat->List Nat) (di:Nat) (kvs:List (Str × D)) (ep:Nat):Prop where
 kn2i:env.kindOf "n2i" = some .local
 kstack:env.kindOf "stack" = some .local
 kit:env.kindOf "itstack" = some .local
 kseen:env.kindOf "seen" = some .local
 kn2s:env.kindOf "node2stacki" = some .local
 knode:env.kindOf "node" = some .local
 sto:Sto env "node" = true
 inter:interactive env = false
 frame:env.frame = some env.locals
 giter:Glb W env "iter" (.builtin "iter")
 glen:Glb W env "len" (.builtin "len")
 gstop:Glb W env "StopIteration" (.type "StopIteration")
 n2i:μ0 "n2i" = some (.ref di)
 stack:μ0 "stack" = some (.ref base.length)
 itst:μ0 "itstack" = some (.ref (base.length + 1))
 seen:μ0 "seen" = some (.ref (base.length + 2))
 n2s:μ0 "node2stacki" = some (.ref (base.length + 3))
 cls:cT W.K 82 false
 slot:fn W.K 82 "successors" 85 2
 dict:base[di]? = some (.mdict kvs (some ep))
 look:∀ x,x < N->(ixI is x).isSome = true->∃ a j ss m,kvs.lookup (tx x) = some (.ref a) /\ base[a]? = some (.minst 82 j ss) /\ base[j]? = some (.mns m) /\ ss[2]? = some (some (.ref (li x)))
 succ:∀ x,x < N->(ixI is x).isSome = true->base[li x]? = some (.mlist ((sc x).map fun y=>.str (tx y)))
 inj:cY tx N
 small:N <= 900
section
variable {μ0:Str->Option D} {li:Nat->Nat} {base:List ac} {sc:Nat->List Nat} {di:Nat} {ki:ac}
theorem je {x:Nat} {y:Str} {d:D} (h:μ0 y = some d) (hy:¬ y = "node"):μn μ0 tx x y = some d:=by
 unfold μn upd;rw [if_neg hy];exact h
theorem wE {x:Nat}:μn μ0 tx x "node" = some (.str (tx x)):=by unfold μn upd;rw [if_pos rfl]
theorem FE.eStack (F:FE W env μ0 tx li base N is sc di kvs ep) (x:Nat):EVM W T n env (μn μ0 tx x) Θ (eval (.Name "stack" pos) env) (.ref base.length) (μn μ0 tx x) Θ:=ai (aa (je F.stack (by decide)) (dX F.kstack (by decide)))
theorem FE.eIt (F:FE W env μ0 tx li base N is sc di kvs ep) (x:Nat):EVM W T n env (μn μ0 tx x) Θ (eval (.Name "itstack" pos) env) (.ref (base.length + 1)) (μn μ0 tx x) Θ:=ai (aa (je F.itst (by decide)) (dX F.kit (by decide)))
theorem FE.eSeen (F:FE W env μ0 tx li base N is sc di kvs ep) (x:Nat):EVM W T n env (μn μ0 tx x) Θ (eval (.Name "seen" pos) env) (.ref (base.length + 2)) (μn μ0 tx x) Θ:=ai (aa (je F.seen (by decide)) (dX F.kseen (by decide)))
theorem FE.eN2s (F:FE W env μ0 tx li base N is sc di kvs ep) (x:Nat):EVM W T n env (μn μ0 tx x) Θ (eval (.Name "node2stacki" pos) env) (.ref (base.length + 3)) (μn μ0 tx x) Θ:=ai (aa (je F.n2s (by decide)) (dX F.kn2s (by decide)))
theorem FE.eN2i (F:FE W env μ0 tx li base N is sc di kvs ep) (x:Nat):EVM W T n env (μn μ0 tx x) Θ (eval (.Name "n2i" pos) env) (.ref di) (μn μ0 tx x) Θ:=ai (aa (je F.n2i (by decide)) (dX F.kn2i (by decide)))
theorem FE.eNode (F:FE W env μ0 tx li base N is sc di kvs ep) (x:Nat):EVM W T n env (μn μ0 tx x) Θ (eval (.Name "node" pos) env) (.str (tx x)) (μn μ0 tx x) Θ:=ai (aa wE (dX F.knode (by decide)))
theorem fL (st:FS):st.ids.length = st.stk.length:=by simp [FS.ids]
theorem FE.tStack (F:FE W env μ0 tx li base N is sc di kvs ep) (x:Nat) (st:FS) (ok:FOk N is st):TSM W T n env (μn μ0 tx x) (fT tx li base ki st) (.Name "stack" pos) (!st.stk.isEmpty) (μn μ0 tx x) (fT tx li base ki st):=by
 have h:=vg (T:=T) (n:=n) (e:=.Name "stack" pos) (Θ:=fT tx li base ki st) (F.eStack x) mX (by rw [length_map,fL];have:=ok.slen;have:=F.small;omega)
 have e:(st.ids.map fun x=>D.str (tx x)).isEmpty = st.stk.isEmpty:=by
  simp only [FS.ids,List.isEmpty_map]
  cases st.stk with
  | nil=>rfl
  | cons a l=>simp
 rw [e] at h;exact h
theorem FOk.top {st:FS} (ok:FOk N is st) (F:FE W env μ0 tx li base N is sc di kvs ep) {v id k:Nat} {rest:List Nat} (hs:st.stk = v :: rest) (h:st.vis[v]? = some (id,some k)):Top (fT tx li base ki st) (base.length + 1) (base.length + 5 + 2 * v) (li id) k ((sc id).map fun y=>.str (tx y)):=by
 have hid:=ok.lt _ (mem_of_getElem? h);refine ⟨⟨rest.reverse.map fun v=>.ref (base.length + 6 + 2 * v),base.length + 6 + 2 * v,?_,?_,zo h⟩,zr h,lV (F.succ id hid.1 hid.2)⟩
 ·rw [se,hs];simp
 ·have:=ok.slen;rw [hs] at this;have:=F.small;simp at *;omega
theorem o8 {st:FS} {v id:Nat} {k k':Option Nat} (h:st.vis[v]? = some (id,k)):(fT tx li base ki st).set (base.length + 5 + 2 * v) (kt (li id) k') = fT tx li base ki ⟨st.vis.set v (id,k'),st.stk⟩:=by
 have e1:(FS.mk (st.vis.set v (id,k')) st.stk).ids = st.ids:=by
  unfold FS.ids;refine map_congr_left fun u _=>pw h u
 have e2:((st.vis.set v (id,k')).map fun p=>tx p.1) = st.vis.map fun p=>tx p.1:=by
  have:=congrArg (List.map tx) (m8 (k':=k') h);simpa [map_map,Function.comp_def] using this
 unfold fT;rw [e1,e2,set_append_right _ _ (by omega),set_append_right _ _ (by simp;omega)]
 congr 2
 have:base.length + 5 + 2 * v - base.length - 5 = 2 * v:=by omega
 simp only [length_cons,length_nil];rw [this,uq li _ _ _ _ _ _ h]
theorem FE.item (hW:Wok W T) (F:FE W env μ0 tx li base N is sc di kvs ep) {px sp p1 p2 p3 p4 p5 p6:Pos} {h0a:ExceptHandler} {hs':List ExceptHandler} {c:Nat} (x:Nat) (st:FS) (v id k:Nat) (rest:List Nat) (y:Nat) (ok:FOk N is st) (hs:st.stk = v :: rest) (h:st.vis[v]? = some (id,some k)) (hk:(sc id)[k]? = some y) :
  EXA W T n env out j0 (μn μ0 tx x) (fT tx li base ki st) (execs [.Try [.Assign [.Name "node" px] (.Call (.Subscript (.Name "itstack" p1) (.UnaryOp .USub (.Constant (.int 1) c p2) p3) sp) [] [] p4) p5,.Break p6] (h0a :: hs') [] [] pos] env) (.brk (μn μ0 tx y) (fT tx li base ki ⟨st.vis.set v (id,some (k + 1)),v :: rest⟩)):=by
 refine bn (re (aE (EX.a (aT hW (vt hW (d:=.str (tx y)) (F.eIt x) (ai (qh aq)) (ok.top F hs h) (by rw [getElem?_map,hk];rfl)) F.sto)) (bn (EXA.brkT (Θ':=(fT tx li base ki st).set (base.length + 5 + 2 * v) (.mliter (li id) (k + 1))) (EX.a ?_) ?_) rfl))) rfl
 ·have:upd (μn μ0 tx x) "node" (.str (tx y)) = μn μ0 tx y:=ow;rw [this];exact qv
 ·rw [<- hs];exact o8 (k':=some (k + 1)) h
theorem bI.lo {st:FS} (h:bI base out):bI (fT tx li base ki st) out:=fun e he=>by
 obtain ⟨j,m,q⟩:=h e he;exact ⟨j,m,lV q⟩
theorem va {st:FS} {v id k:Nat} {rest:List Nat} (ok:FOk N is st) (hT:cY tx N) (hs:st.stk = v :: rest) (h:st.vis[v]? = some (id,some k)) :
  ((((fT tx li base ki st).set (base.length + 5 + 2 * v) .gone).set base.length (.mlist (rest.reverse.map fun v=>.str (tx (st.idOf v))))).set (base.length + 3) (.mdict (jP (st.ids.zipIdx.map fun p=>(tx p.1,.int p.2)) (tx id)) none)).set (base.length + 1) (.mlist (rest.reverse.map fun v=>.ref (base.length + 6 + 2 * v))) = fT tx li base ki ⟨st.vis.set v (id,none),rest⟩:=by
 have h0:(fT tx li base ki st).set (base.length + 5 + 2 * v) .gone = fT tx li base ki ⟨st.vis.set v (id,none),st.stk⟩:=o8 (k':=none) h;have e1:(FS.mk (st.vis.set v (id,none)) rest).ids = rest.reverse.map st.idOf:=by
  unfold FS.ids;refine map_congr_left fun u _=>pw h u
 have e0:st.ids = rest.reverse.map st.idOf ++ [id]:=by
  unfold FS.ids;rw [hs,reverse_cons,map_append];simp [FOk.idOf (N:=N) (is:=is) h]
 have nd:=ok.ids_nd;have lt:=ok.ids_lt;rw [e0] at nd lt;have hn:id ∉ rest.reverse.map st.idOf:=fun q=>(List.nodup_append.mp nd).2.2 _ q _ (.head _) rfl
 have e2:jP (st.ids.zipIdx.map fun p=>(tx p.1,D.int p.2)) (tx id) = (rest.reverse.map st.idOf).zipIdx.map fun p=>(tx p.1,D.int p.2):=by
  rw [e0];exact xF hT (lt id (by simp)) _ 0 (fun y hy=>lt y (List.mem_append_left _ hy)) hn
 rw [h0,e2];unfold fT;rw [e1];rw [set_append_right _ _ (by omega),set_append_right _ _ (by omega),set_append_right _ _ (by omega)]
 have n1:base.length - base.length = 0:=by omega
 have n2:base.length + 3 - base.length = 3:=by omega
 have n3:base.length + 1 - base.length = 1:=by omega
 rw [n1,n2,n3];simp [map_map,Function.comp_def]
theorem FE.stop (hW:Wok W T) (F:FE W env μ0 tx li base N is sc di kvs ep) (hout:bI base out) {px sp p1 p2 p3 p4 p5 p6 p8 p9 p10 p11 p12 p13 p14 p15 p16 p17 p18:Pos} {b2:List Stmt} {c:Nat} (hl:(p10.endLine == p11.line) = true) (hl':(p15.endLine == p16.line) = true) (x:Nat) (st:FS) (v id k:Nat) (rest:List Nat) (ok:FOk N is st) (hs:st.stk = v :: rest) (h:st.vis[v]? = some (id,some k)) (hk:(sc id)[k]? = none) :
  EXA W T n env out j0 (μn μ0 tx x) (fT tx li base ki st) (execs [.Try (.Assign [.Name "node" px] (.Call (.Subscript (.Name "itstack" p1) (.UnaryOp .USub (.Constant (.int 1) c p2) p3) sp) [] [] p4) p5 :: b2)
   [.ExceptHandler (some (.Name "StopIteration" p6)) none [.Delete [.Subscript (.Name "node2stacki" p8) (.Call (.Attribute (.Name "stack" p9) "pop" p10) [] [] p11) p12] p13,.Expr (.Call (.Attribute (.Name "itstack" p14) "pop" p15) [] [] p16) p17] p18] [] [] pos] env) (.nxt (μn μ0 tx x) (fT tx li base ki ⟨st.vis.set v (id,none),rest⟩)):=by
 have hsl:=ok.slen;have hsm:=F.small;rw [hs,length_cons] at hsl;have e0:st.ids = rest.reverse.map st.idOf ++ [id]:=by
  unfold FS.ids;rw [hs,reverse_cons,map_append];simp [FOk.idOf (N:=N) (is:=is) h]
 have nd:=ok.ids_nd;have lt:=ok.ids_lt;rw [e0] at nd lt;have hn:id ∉ rest.reverse.map st.idOf:=fun q=>(List.nodup_append.mp nd).2.2 _ q _ (.head _) rfl
 have nm:∀ {y:Str} {d:D} {p:Pos} {Θ:List ac},μ0 y = some d->¬ y = "node"->env.kindOf y = some .local->(y == ("__debug__" : Str)) = false->EVL W T env (μn μ0 tx x) Θ (eval (.Name y p) env) d Θ:=fun h1 h2 h3 h4=>vo (je h1 h2) h3 h4
 refine aE (EXA.nxtT (pO hW (F.eIt x) (ai (qh aq)) (ok.top F hs h) (by rw [getElem?_map,hk];rfl) hout.lo F.gstop (nU (xX hW (nm F.n2s (by decide) F.kn2s (by decide)) (rX hW (d:=.str (tx id)) (ds:=rest.reverse.map fun v=>.str (tx (st.idOf v))) (nm F.stack (by decide) F.kstack (by decide)) ?_ ?_ (hline:=hl)) (k:=tx id) ?_ (d:=.int rest.length) (ep:=none) ?_ ?_) (nU (vd (rX hW (ds:=rest.reverse.map fun v=>.ref (base.length + 6 + 2 * v)) (d:=.ref (base.length + 6 + 2 * v)) (nm F.itst (by decide) F.kit (by decide)) ?_ ?_ (hline:=hl')) F.inter) wf)) F.frame) (va ok F.inj hs h)) ar.a
 ·rw [getElem?_set_ne (by omega),mX,e0];simp
 ·rw [length_map,List.length_reverse];omega
 ·rw [getElem?_set_ne (by omega),getElem?_set_ne (by omega)];exact sm
 ·have hz:=gZ F.inj (lt id (by simp)) (rest.reverse.map st.idOf ++ [id]) 0 lt
  rw [e0,hz,if_pos (by simp),Nat.zero_add,List.idxOf_append,if_neg hn]
  simp
 ·rw [length_map,List.length_zipIdx,fL,hs,length_cons];omega
 ·rw [getElem?_set_ne (by omega),getElem?_set_ne (by omega),getElem?_set_ne (by omega),se,hs];simp
 ·rw [length_map,List.length_reverse];omega
end
end
section
section
variable {μ0:Str->Option D} {li:Nat->Nat} {base:List ac} {sc:Nat->List Nat} {di:Nat} {ki:ac}
theorem lN {μ:Str->Option D} {st:Stmt} {o:Out} (h:EXA W T n env out j0 μ Θ (exec st env) o):EXA W T n env out j0 μ Θ (execs [st] env) o:=by
 cases o with
 | nxt μ' Θ'=>exact aE h ar.a
 | brk=>exact bn h rfl
 | cont=>exact bn h rfl
 | ret=>exact bn h rfl
theorem FE.tSeen (hW:Wok W T) (F:FE W env μ0 tx li base N is sc di kvs ep) {p1 p2:Pos} (x:Nat) (st:FS) (hx:x < N) (ok:FOk N is st):TSM W T n env (μn μ0 tx x) (fT tx li base ki st) (.Compare (.Name "node" p1) [.In] [.Name "seen" p2] pos) (st.seen x) (μn μ0 tx x) (fT tx li base ki st):=by
 have h:=ue (T:=T) (n:=n) (pos:=pos) hW (Θ:=fT tx li base ki st) (F.eNode x (pos:=p1)) (F.eSeen x (pos:=p2)) yo;have e:decide (tx x ∈ st.vis.map fun p=>tx p.1) = st.seen x:=by
  rw [Bool.eq_iff_iff,decide_eq_true_eq,lG,List.mem_map,List.mem_map];exact ⟨fun ⟨p,hp,e⟩=>⟨p,hp,F.inj _ _ (ok.lt p hp).1 hx e⟩,fun ⟨p,hp,e⟩=>⟨p,hp,by rw [<- e]⟩⟩
 rw [e] at h;exact h
theorem tG {st:FS} {x:Nat}:st.on x = true ↔ x ∈ st.ids:=by
 unfold FS.on FS.ids;rw [List.any_eq_true,List.mem_map];exact ⟨fun ⟨v,hv,e⟩=>⟨v,List.mem_reverse.mpr hv,by simpa using e⟩,fun ⟨v,hv,e⟩=>⟨v,List.mem_reverse.mp hv,by simpa using e⟩⟩
theorem FE.tOn (hW:Wok W T) (F:FE W env μ0 tx li base N is sc di kvs ep) {p1 p2:Pos} (x:Nat) (st:FS) (hx:x < N) (ok:FOk N is st):TSM W T n env (μn μ0 tx x) (fT tx li base ki st) (.Compare (.Name "node" p1) [.In] [.Name "node2stacki" p2] pos) (st.on x) (μn μ0 tx x) (fT tx li base ki st):=by
 have h:=sW (T:=T) (n:=n) (pos:=pos) hW (Θ:=fT tx li base ki st) (F.eNode x (pos:=p1)) (F.eN2s x (pos:=p2)) sm;have e:((st.ids.zipIdx.map fun p=>(tx p.1,D.int (p.2:Nat))).lookup (tx x)).isSome = st.on x:=by
  rw [gZ F.inj hx st.ids 0 ok.ids_lt,Bool.eq_iff_iff,tG];split
  ·rename_i q;simp [q]
  ·rename_i q;simp [q]
 rw [e] at h;exact h
theorem FE.cont (hW:Wok W T) (F:FE W env μ0 tx li base N is sc di kvs ep) {p1 p2 p3 p4:Pos} (x:Nat) (st:FS) (hx:x < N) (ok:FOk N is st) :
  EXA W T n env out j0 (μn μ0 tx x) (fT tx li base ki st) (exec (.If (.Compare (.Name "node" p1) [.In] [.Name "seen" p2] p3) [.Continue p4] [] pos) env) (if st.seen x then .cont (μn μ0 tx x) (fT tx li base ki st) else .nxt (μn μ0 tx x) (fT tx li base ki st)):=
 d8 (F.tSeen hW x st hx ok) (fun e=>by rw [e,if_pos rfl];exact bn q9.a rfl) (fun e=>by rw [e,if_neg (by decide)];exact ar.a)
theorem FE.ret (hW:Wok W T) (F:FE W env μ0 tx li base N is sc di kvs ep) {p1 p2 p3 p4 p5 p6 p7 p8 p9 p10 p11 p12 p13 p14 p15 p16 p17:Pos} {els rest:List Stmt} (x:Nat) (st:FS) (ok:FOk N is st) (hx:x < N) (hs:st.seen x = true) (ho:st.on x = true) :
  EXA W T n env out j0 (μn μ0 tx x) (fT tx li base ki st) (execs (.If (.Compare (.Name "node" p1) [.In] [.Name "seen" p2] p3) [.If (.Compare (.Name "node" p4) [.In] [.Name "node2stacki" p5] p6) [.Return (some (.BinOp (.Subscript (.Name "stack" p7) (.Slice (some (.Subscript (.Name "node2stacki" p8) (.Name "node" p9) p10)) none none p11) p12) .Add (.List [.Name "node" p13] p14) p15)) p16] [] p17] els pos :: rest) env)
   (.ret (.list ((st.ring x).map fun j=>.str (tx j))) (fT tx li base ki st)):=by
 have hm:=tG.mp ho;have hlen:=ok.slen;have hsm:=F.small;refine bn (d8 (F.tSeen hW x st hx ok) (fun _=>bn (d8 (F.tOn hW x st hx ok) (fun _=>bn (EX.a (iU (EVM.eqd (um (wb hW (F.eStack x) (iu hW (F.eN2s x) (F.eNode x) sm (d:=.int (st.ids.idxOf x:Nat)) ?_) mX ?_) (ai (aY hW (af (aa wE (dX F.knode (by decide))) ak) (le_of_ble_eq_true rfl))) (q3 hW ?_)) ?_))) rfl) (fun q=>by rw [ho] at q;cases q)) rfl) (fun q=>by rw [hs] at q;cases q)) rfl
 ·rw [gZ F.inj hx st.ids 0 ok.ids_lt,if_pos hm,Nat.zero_add]
 ·rw [length_map,fL];omega
 ·rw [length_drop,length_map,fL];simp;omega
 ·unfold FS.ring;simp [map_append,map_drop]
theorem vL {st:FS} (ok:FOk N is st) (x:Nat):(st.push x).ids = st.ids ++ [x]:=by
 have hlt:∀ v ∈ st.stk,v < st.vis.length:=fun v hv=>by obtain ⟨a,b,e⟩:=ok.son v hv;exact (List.getElem?_eq_some_iff.mp e).1
 unfold FS.ids FS.push;simp only [reverse_cons,map_append,map_cons,map_nil];congr 1
 ·refine map_congr_left fun u hu=>?_
  unfold FS.idOf;simp only
  rw [List.getElem?_append_left (hlt u (List.mem_reverse.mp hu))]
 ·unfold FS.idOf;simp
theorem wj {α:Type} (base:List α) (a b c d e a' b' c' d':α) (r t:List α):(((((base ++ ([a,b,c,d,e] ++ r)).set (base.length + 2) c') ++ t).set (base.length + 1) b').set (base.length + 3) d').set base.length a' = base ++ ([a',b',c',d',e] ++ (r ++ t)):=by
 have n1:base.length - base.length = 0:=by omega
 have n2:base.length + 2 - base.length = 2:=by omega
 have n3:base.length + 3 - base.length = 3:=by omega
 have n4:base.length + 1 - base.length = 1:=by omega
 rw [set_append_right (s:=base) _ _ (by omega),n2,append_assoc,set_append_right (s:=base) _ _ (by omega),n4,set_append_right (s:=base) _ _ (by omega),n3,set_append_right (s:=base) _ _ (by omega),n1]
 rfl
theorem sw {st:FS} (ok:FOk N is st) (x:Nat) :
  (((((fT tx li base ki st).set (base.length + 2) (ac.mset ((st.vis.map fun p:Nat × Option Nat=>tx p.1) ++ [tx x]))) ++ [ac.mliter (li x) 0,ac.mwrap (base.length + 5 + 2 * st.vis.length)]:List ac).set (base.length + 1) (ac.mlist ((st.stk.reverse.map fun v=>D.ref (base.length + 6 + 2 * v)) ++ [D.ref (base.length + 5 + 2 * st.vis.length + 1)]))).set (base.length + 3) (ac.mdict ((st.ids.zipIdx.map fun p:Nat × Nat=>(tx p.1,D.int p.2)) ++ [(tx x,D.int (st.ids.map fun x=>D.str (tx x)).length)]) none)).set base.length (ac.mlist ((st.ids.map fun x=>D.str (tx x)) ++ [D.str (tx x)]))
   = fT tx li base ki (st.push x):=by
 have e1:=vL ok x;have e2:(st.push x).vis = st.vis ++ [(x,some 0)]:=rfl;have e3:(st.push x).stk = st.vis.length :: st.stk:=rfl;conv=>rhs;unfold fT
 rw [e1,e2,e3,nR,List.zipIdx_append];have n5:base.length + 5 + 2 * st.vis.length + 1 = base.length + 6 + 2 * st.vis.length:=by omega
 unfold fT;rw [wj,n5];simp
theorem FE.push (hW:Wok W T) (F:FE W env μ0 tx li base N is sc di kvs ep) {p1 p2 p3 p4 p5 p6 p7 p8 p9 p10 p11 p12 p13 p14 p15 p16 p17 p18 p19 p20 p21 p22 p23 p24 p25 p26 p27:Pos} (h1:(p2.endLine == p4.line) = true) (h2:(p7.endLine == p15.line) = true) (h3:(p25.endLine == p26.line) = true) (x:Nat) (st:FS) (ok:FOk N is st) (hx:x < N) (hi:(ixI is x).isSome = true) (hn:st.seen x = false) :
  EXA W T n env out j0 (μn μ0 tx x) (fT tx li base ki st) (execs [.Expr (.Call (.Attribute (.Name "seen" p1) "add" p2) [.Name "node" p3] [] p4) p5,
   .Expr (.Call (.Attribute (.Name "itstack" p6) "append" p7) [.Attribute (.Call (.Name "iter" p8) [.Attribute (.Subscript (.Name "n2i" p9) (.Name "node" p10) p11) "successors" p12] [] p13) "__next__" p14] [] p15) p16,
   .Assign [.Subscript (.Name "node2stacki" p17) (.Name "node" p18) p19] (.Call (.Name "len" p20) [.Name "stack" p21] [] p22) p23,
   .Expr (.Call (.Attribute (.Name "stack" p24) "append" p25) [.Name "node" p27] [] p26) pos] env) (.nxt (μn μ0 tx x) (fT tx li base ki (st.push x))):=by
 have hsl:=ok.slen;have hvl:=ok.len;have hsm:=F.small;obtain ⟨a,j,ss,m,k1,k2,k3,k4⟩:=F.look x hx hi;have up:∀ {i:Nat} {o:ac} {c:Nat} {o':ac},base[i]? = some o->((fT tx li base ki st).set (base.length + c) o')[i]? = some o:=fun {i o c o'} q=>by
  have:=(List.getElem?_eq_some_iff.mp q).1;rw [getElem?_set_ne (by omega)];exact lV q
 have L1:((fT tx li base ki st).set (base.length + 2) (.mset ((st.vis.map fun p=>tx p.1) ++ [tx x]))).length = base.length + 5 + 2 * st.vis.length:=by rw [List.length_set,yZ]
 have hx':x ∉ st.ids:=fun q=>by
  obtain ⟨v,hv,e⟩:=List.mem_map.mp q;obtain ⟨id,k,h⟩:=ok.son v (List.mem_reverse.mp hv);rw [FOk.idOf (N:=N) (is:=is) h] at e;subst e;rw [lG.mpr (List.mem_map.mpr ⟨_,mem_of_getElem? h,rfl⟩)] at hn;cases hn
 refine aE (EX.a (dz (vc hW (F.eSeen x) (F.eNode x) yo (by rw [length_map];omega) (hline:=h1)) F.inter)) ?_
 refine aE (EX.a (dz (fq hW (F.eIt x) (ds:=st.stk.reverse.map fun v=>.ref (base.length + 6 + 2 * v)) (ds0:=st.stk.reverse.map fun v=>.ref (base.length + 6 + 2 * v)) (qw hW F.giter (fH hW F.cls F.slot (iu hW (F.eN2i x) (F.eNode x) (up F.dict) k1) (up k2) (up k3) k4) (up (F.succ x hx hi))) ?_ ?_ ?_ (hline:=h2)) F.inter)) ?_
 ·rw [getElem?_set_ne (by omega),se]
 ·rw [List.getElem?_append_left (by rw [L1];omega),getElem?_set_ne (by omega),se]
 ·rw [length_map,List.length_reverse];omega
 rw [L1];refine aE (EX.a (vD hW (vp (dW (je F.stack (by decide)) (ds:=st.ids.map fun x=>.str (tx x)) ?_) (a7 hW F.glen (af (aa (by unfold upd;rw [if_pos rfl]) (dX F.kstack (by decide))) ak) (cf ?_) rfl) rfl) (F.eN2s x) (F.eNode x) (kvs:=st.ids.zipIdx.map fun p=>(tx p.1,.int p.2)) (ep:=none) ?_ ?_ ?_)) ?_
 ·rw [getElem?_set_ne (by omega),List.getElem?_append_left (by rw [L1];omega),getElem?_set_ne (by omega),mX]
 ·rw [length_map,fL];omega
 ·rw [getElem?_set_ne (by omega),List.getElem?_append_left (by rw [L1];omega),getElem?_set_ne (by omega),sm]
 ·rw [gZ F.inj hx st.ids 0 ok.ids_lt,if_neg hx']
 ·rw [length_map,List.length_zipIdx,fL];omega
 refine aE (EXA.nxtT (EX.a (dz (fq hW (F.eStack x) (ds:=st.ids.map fun x=>.str (tx x)) (ds0:=st.ids.map fun x=>.str (tx x)) (F.eNode x) ?_ ?_ ?_ (hline:=h3)) F.inter)) (sw ok x)) ar.a
 ·rw [getElem?_set_ne (by omega),getElem?_set_ne (by omega),List.getElem?_append_left (by rw [L1];omega),getElem?_set_ne (by omega),mX]
 ·rw [getElem?_set_ne (by omega),getElem?_set_ne (by omega),List.getElem?_append_left (by rw [L1];omega),getElem?_set_ne (by omega),mX]
 ·rw [length_map,fL];omega
end
end
section
section
variable {c:Sem Flow}
theorem EXA.ret_trunc (h:EXA W T n env out j0 μ Θ c (.ret d (Θ' ++ G))) (hl:(Θ'.all fun o=>o.lo Θ'.length) = true) (hd:d.lo Θ'.length = true) (hle:Θ.length <= Θ'.length):EXA W T n env out j0 μ Θ c (.ret d Θ'):=by
 refine .of ?_;intro A s vm O r kn t R Q E q;refine h.run A s vm O r kn t R Q E fun f h' tk le p=>?_
 obtain ⟨v,O',rfl,R',dv,x⟩:=p;refine q _ h' tk le ⟨v,O'.take Θ'.length,rfl,R'.trunc hl,(dv.lo (k:=Θ'.length) (fun i a hi e=>by rw [getElem?_take_of_lt hi];exact e) (fun a m=>m.imp id fun ⟨i,o,h1,h2,h3⟩=>?_) hd),x.trunc R.len hle⟩
 have h4:=(List.getElem?_eq_some_iff.mp h2).1;exact ⟨i,o,by rw [getElem?_take_of_lt h4] at h1;exact h1,by rw [List.getElem?_append_left h4];exact h2,h3⟩
theorem EXA.ret_unep {i ep:Nat} {kvs:List (Str × D)} (h:EXA W T n env out j0 μ Θ c (.ret d Θ')) (hi:Θ'[i]? = some (.mdict kvs (some ep))):EXA W T n env out j0 μ Θ c (.ret d (Θ'.set i (.mdict kvs none))):=by
 refine .of ?_;intro A s vm O r kn t R Q E q;refine h.run A s vm O r kn t R Q E fun f h' tk le p=>?_
 obtain ⟨v,O',rfl,R',dv,x⟩:=p;have hlt:=(List.getElem?_eq_some_iff.mp hi).1;have hlO:i < O'.length:=by rw [R'.len];exact hlt
 have hO:O'[i]? = some O'[i]:=by simp [hlO]
 have lv:∀ b,bf O' (Θ'.set i (.mdict kvs none)) b->bf O' Θ' b:=jv hO hi nox;have mx:∀ b,Mx Nox O' (Θ'.set i (.mdict kvs none)) b->Mx Nox O' Θ' b:=fun b m=>m.imp id (lv b)
 have R'':RpH W T Nox (Θ'.set i (.mdict kvs none)) h' O':=by
  refine ⟨R'.gd,R'.live,by simp [R'.len],R'.nd,R'.apart,R'.above,R'.there,fun j b ob h1 h2=>?_⟩
  by_cases hj:i = j
  ·subst hj;rw [getElem?_set_self hlt] at h2;cases h2;obtain ⟨vk,e,De,_,dk⟩:=(R'.obs i b _ h1 hi).more (M':=Mx Nox O' (Θ'.set i (.mdict kvs none))) fun a m=>.inl (mx a m)
   exact ⟨vk,e,De,(fun e' q=>by cases q),dk⟩
  ·rw [getElem?_set_ne hj] at h2;exact (R'.obs j b ob h1 h2).more fun a m=>.inl (mx a m)
 have nx:Nx W (Fx env) h' O' Θ' h' O' (Θ'.set i (.mdict kvs none)):=⟨fun a ob _ _ e=>e,.refl _ _,fun _ e=>e,gw hi nox⟩
 exact q _ h' tk le ⟨v,O',rfl,R'',dv.more fun a m=>.inl (mx a m),x.trans nx R.len⟩
theorem EXA.ret_gone (h:EXA W T n env out j0 μ Θ c (.ret d Θ')) (i:Nat):EXA W T n env out j0 μ Θ c (.ret d (Θ'.set i .gone)):=by
 refine .of ?_;intro A s vm O r kn t R Q E q;refine h.run A s vm O r kn t R Q E fun f h' tk le p=>?_
 obtain ⟨v,O',rfl,R',dv,x⟩:=p;have lv:∀ b,bf O' (Θ'.set i .gone) b->bf O' Θ' b:=fun b ⟨j,ob,h1,h2,h3⟩=>by
  by_cases hj:i = j
  ·subst hj;have hl:=(List.getElem?_eq_some_iff.mp h2).1;rw [getElem?_set_self (by simpa using hl)] at h2;cases h2;exact absurd rfl h3
  ·rw [getElem?_set_ne hj] at h2;exact ⟨j,ob,h1,h2,h3⟩
 have nx:Nx W (Fx env) h' O' Θ' h' O' (Θ'.set i .gone):=⟨fun a ob _ _ e=>e,.refl _ _,fun _ e=>e,⟨by simp,fun j e=>by
  have hl:=(List.getElem?_eq_some_iff.mp e).1;by_cases hj:i = j
  ·subst hj;exact getElem?_set_self hl
  ·rw [getElem?_set_ne hj];exact e⟩⟩
 exact q _ h' tk le ⟨v,O',rfl,R'.forget i,dv.more fun a m=>.inl (m.imp id (lv a)),x.trans nx R.len⟩
theorem EXA.retT {Θ'':List ac} (h:EXA W T n env out j0 μ Θ c (.ret d Θ')) (e:Θ' = Θ''):EXA W T n env out j0 μ Θ c (.ret d Θ''):=e ▸ h
end
mutual
theorem D.lo_mono {k k':Nat} (hk:k <= k'):∀ (d:D),d.lo k = true->d.lo k' = true
 | .none,_=>rfl
 | .bool _,_=>rfl
 | .int _,_=>rfl
 | .str _,_=>rfl
 | .list ds,h=>by rw [D.lo] at h ⊢;exact D.loL_mono hk ds h
 | .tup ds,h=>by rw [D.lo] at h ⊢;exact D.loL_mono hk ds h
 | .ref i,h=>by rw [D.lo] at h ⊢;exact decide_eq_true (Nat.lt_of_lt_of_le (of_decide_eq_true h) hk)
theorem D.loL_mono {k k':Nat} (hk:k <= k'):∀ (ds:List D),D.loL k ds = true->D.loL k' ds = true
 | [],_=>rfl
 | d :: ds,h=>by
  rw [D.loL,Bool.and_eq_true] at h ⊢;exact ⟨D.lo_mono hk d h.1,D.loL_mono hk ds h.2⟩
end
theorem ac.lo_mono {k k':Nat} (hk:k <= k') (o:ac) (h:o.lo k = true):o.lo k' = true:=by
 have lt:∀ {i:Nat},decide (i < k) = true->decide (i < k') = true:=fun h=>decide_eq_true (Nat.lt_of_lt_of_le (of_decide_eq_true h) hk)
 cases o with
 | gone=>rfl
 | mlist ds=>exact D.loL_mono hk ds h
 | mns m=>exact List.all_eq_true.mpr fun p hp=>D.lo_mono hk _ (List.all_eq_true.mp h p hp)
 | minst C j ss=>
  have h':(decide (j < k) && ss.all fun o=>match o with | some d=>d.lo k | none=>true) = true:=h
  rw [Bool.and_eq_true] at h';show (decide (j < k') && ss.all fun o=>match o with | some d=>d.lo k' | none=>true) = true
  rw [Bool.and_eq_true];refine ⟨lt h'.1,List.all_eq_true.mpr fun p hp=>?_⟩
  have:=List.all_eq_true.mp h'.2 p hp
  cases p with
  | none=>rfl
  | some d=>exact D.lo_mono hk d this
 | mdict kvs ep=>exact List.all_eq_true.mpr fun p hp=>D.lo_mono hk _ (List.all_eq_true.mp h p hp)
 | mset ks=>rfl
 | mliter i j=>exact lt h
 | mkiter i j n e=>exact lt h
 | mwrap i=>exact lt h
 | mframe e m=>rfl
theorem cS {k k':Nat} (hk:k <= k') {Θ:List ac} (h:(Θ.all fun o=>o.lo k) = true):(Θ.all fun o=>o.lo k') = true:=
 List.all_eq_true.mpr fun o ho=>ac.lo_mono hk o (List.all_eq_true.mp h o ho)
noncomputable def ir (tx:Nat->Str):Option (List Nat)->D
 | some ring=>.list (ring.map fun j=>.str (tx j))
 | none=>.none
theorem i7 (tx:Nat->Str) (r:Option (List Nat)) (k:Nat):(ir tx r).lo k = true:=by
 cases r with
 | none=>rfl
 | some l=>
  show D.lo k (.list _) = true;rw [D.lo]
  induction l with
  | nil=>rfl
  | cons a l ih=>rw [map_cons,D.loL,ih];rfl
section
variable {μ0:Str->Option D} {li:Nat->Nat} {base:List ac} {sc:Nat->List Nat} {di:Nat}
theorem FE.bdy (hW:Wok W T) (F:FE W env μ0 tx li base N is sc di kvs ep) {ks:List Nat} {res:Option (List Nat)} {m:Nat} {px p1 p2 p3 p4 wpos:Pos} {c:Nat} {ifs:Stmt} {test:Expr} {body:List Stmt}
  (hks:kvs.map (·.1) = ks.map tx) (hok:∀ x ∈ ks,x < N /\ (ixI is x).isSome = true) (hres:dR sc m ks ⟨[],[]⟩ = some res) (hb:(base.all fun o=>o.lo base.length) = true)
  (hseen:FE W env μ0 tx li base N is sc di kvs ep->∀ ki x st,x < N->FOk N is st->EXA W T n env out j0 (μn μ0 tx x) (fT tx li base ki st) (exec ifs env) (if st.seen x then .cont (μn μ0 tx x) (fT tx li base ki st) else .nxt (μn μ0 tx x) (fT tx li base ki st)))
  (hgo:FE W env μ0 tx li base N is sc di kvs ep->∀ ki st x st' r,jg sc m m st x = some (st',r)->FOk N is st->x < N->(ixI is x).isSome = true->∃ z,WHA W T n env out j0 test body [] m (μn μ0 tx x) (fT tx li base ki st) (lM μ0 tx li base ki z st' r) /\ FOk N is st') :
  EXA W T n env out j0 μ0 (base ++ [.mlist [],.mlist [],.mset [],.mdict [] none]) (execs [.For (.Name "node" px) (.Name "n2i" p1) [ifs,.While test body [] wpos] [] p2,.Return (some (.Constant .none c p3)) p4] env) (.ret (ir tx res) (base ++ [.gone,.gone,.gone,.gone])):=by
 obtain ⟨Θf,μ',⟨ki',st',rfl⟩,w⟩:=sK hW (px:=px) (wpos:=wpos) F.dict hks hok F.sto (hseen F) (hgo F) ks.length 0 ⟨[],[]⟩ res μ0 (.inr rfl) (by omega) hres ⟨List.nodup_nil,fun p hp=>absurd hp not_mem_nil,List.nodup_nil,fun p hp=>absurd hp not_mem_nil⟩
 have hdi:(base ++ [ac.mlist [],.mlist [],.mset [],.mdict [] none])[di]? = some (.mdict kvs (some ep)):=by
  rw [List.getElem?_append_left (List.getElem?_eq_some_iff.mp F.dict).1];exact F.dict
 have mk:=vC (W:=W) (T:=T) hW hdi;have e1:(base ++ [ac.mlist [],.mlist [],.mset [],.mdict [] none]).length = base.length + 4:=by simp
 have e2:(base ++ [ac.mlist [],.mlist [],.mset [],.mdict [] none]) ++ [.mkiter di 0 kvs.length ep] = fT tx li base (.mkiter di 0 kvs.length ep) ⟨[],[]⟩:=by
  unfold fT;rw [append_assoc];rfl
 rw [e1,e2] at mk;have fo:=wV (pos:=p2) hW (ai (aa F.n2i (dX F.kn2i (by decide)) (pos:=p1))) mk w rfl
 have e3:((((fT tx li base ki' st').set base.length .gone).set (base.length + 1) .gone).set (base.length + 2) .gone).set (base.length + 3) .gone = (base ++ [.gone,.gone,.gone,.gone]) ++ (ki' :: cW li (base.length + 5) st'.vis):=by
  unfold fT;have n1:base.length - base.length = 0:=by omega
  have n2:base.length + 2 - base.length = 2:=by omega
  have n3:base.length + 3 - base.length = 3:=by omega
  have n4:base.length + 1 - base.length = 1:=by omega
  rw [set_append_right (s:=base) _ _ (by omega),n1,set_append_right (s:=base) _ _ (by omega),n4,set_append_right (s:=base) _ _ (by omega),n2,set_append_right (s:=base) _ _ (by omega),n3,append_assoc]
  rfl
 have fin:∀ {d:D},d.lo (base ++ [ac.gone,.gone,.gone,.gone]).length = true->EXA W T n env out j0 μ0 (base ++ [.mlist [],.mlist [],.mset [],.mdict [] none]) (execs [.For (.Name "node" px) (.Name "n2i" p1) [ifs,.While test body [] wpos] [] p2,.Return (some (.Constant .none c p3)) p4] env) (.ret d (fT tx li base ki' st'))->
   EXA W T n env out j0 μ0 (base ++ [.mlist [],.mlist [],.mset [],.mdict [] none]) (execs [.For (.Name "node" px) (.Name "n2i" p1) [ifs,.While test body [] wpos] [] p2,.Return (some (.Constant .none c p3)) p4] env) (.ret d (base ++ [.gone,.gone,.gone,.gone])):=fun hd h=>by
  refine (((((h.ret_gone base.length).ret_gone (base.length + 1)).ret_gone (base.length + 2)).ret_gone (base.length + 3)).retT e3).ret_trunc ?_ hd (by simp)
  rw [all_append,cS (by simp) hb]
  rfl
 cases res with
 | some ring=>exact fin (i7 tx (some ring) _) (bn fo rfl)
 | none=>exact fin rfl (aE fo (bn (EX.a (iU (ai cH))) rfl))
end
end
noncomputable def gc (is:List ao) (x:Nat):List Nat:=match ixI is x with
 | some j=>(match is[j]? with | some i=>i.succ | none=>[])
 | none=>[]
noncomputable def liI (b:Nat) (is:List ao) (x:Nat):Nat:=match ixI is x with
 | some j=>b + 3 + 3 * j + 2
 | none=>0
theorem vF (hK:W.K = hd.heap_39 P) (h:env.kindOf "StopIteration" = some .globalImplicit):Glb W env "StopIteration" (.type "StopIteration"):=.built h (by rw [hK];with_unfolding_all rfl) rfl (by decide)
theorem oF:∀ (k:Nat) (is:List ao),(aC tx k is).map (·.1) = (is.map (·.id)).map tx
 | _,[]=>rfl
 | k,i :: r=>by rw [aC,map_cons,oF (k + 3) r];rfl
theorem we (ok:a9 N is) (hsu:∀ i ∈ is,∀ y ∈ i.succ,(ixI is y).isSome = true) (id y:Nat) (h:y ∈ gc is id):y < N /\ (ixI is y).isSome = true:=by
 unfold gc at h;split at h
 ·split at h
  ·rename_i i hi;exact ⟨ok.sl i (mem_of_getElem? hi) y h,hsu i (mem_of_getElem? hi) y h⟩
  ·cases h
 ·cases h
theorem bI.app (h:bI Θ out):bI (Θ ++ G) out:=fun e he=>by
 obtain ⟨j,m,q⟩:=h e he;exact ⟨j,m,by rw [List.getElem?_append_left (List.getElem?_eq_some_iff.mp q).1];exact q⟩
theorem bI.put (h:bI Θ out) {o o':ac} (hi:Θ[i]? = some o) (hn:∀ e m,o ≠ .mframe e m):bI (Θ.set i o') out:=fun e he=>by
 obtain ⟨j,m,q⟩:=h e he;refine ⟨j,m,?_⟩
 by_cases hj:i = j
 ·subst hj;rw [hi] at q;cases q;exact absurd rfl (hn e m)
 ·rw [getElem?_set_ne hj];exact q
variable {μ0:Str->Option D} {li:Nat->Nat} {sc:Nat->List Nat} {ki:ac} {wpos:Pos}
theorem FE.turn {base:List ac} {ifst:Stmt} {m:Nat} {x:Nat} {st st':FS} {r:Option Nat}
  (hsc:∀ id y,y ∈ sc id->y < N /\ (ixI is y).isSome = true) (ok:FOk N is st) (hx:x < N) (hi:(ixI is x).isSome = true) (hin:jm sc m (if st.seen x then st else st.push x) = some (st',r))
  (hA:EXA W T n env out j0 (μn μ0 tx x) (fT tx li base ki st) (exec ifst env) (.nxt (μn μ0 tx x) (fT tx li base ki (if st.seen x then st else st.push x))))
  (htest:∀ st,FOk N is st->TSM W T n env (μn μ0 tx x) (fT tx li base ki st) test (!st.stk.isEmpty) (μn μ0 tx x) (fT tx li base ki st))
  (hitem:∀ st v id k rest y,FOk N is st->st.stk = v :: rest->st.vis[v]? = some (id,some k)->(sc id)[k]? = some y->EXA W T n env out j0 (μn μ0 tx x) (fT tx li base ki st) (execs body env) (.brk (μn μ0 tx y) (fT tx li base ki ⟨st.vis.set v (id,some (k + 1)),v :: rest⟩)))
  (hstop:∀ st v id k rest,FOk N is st->st.stk = v :: rest->st.vis[v]? = some (id,some k)->(sc id)[k]? = none->EXA W T n env out j0 (μn μ0 tx x) (fT tx li base ki st) (execs body env) (.nxt (μn μ0 tx x) (fT tx li base ki ⟨st.vis.set v (id,none),rest⟩)))
  (hels:∀ Θ,EXA W T n env out j0 (μn μ0 tx x) Θ (execs orelse env) (.brk (μn μ0 tx x) Θ)) :
  EXA W T n env out j0 (μn μ0 tx x) (fT tx li base ki st) (execs [ifst,.While test body orelse wpos] env) (lJ μ0 tx li base ki x st' r) /\ FOk N is st' /\ ∀ y,r = some y->y < N /\ (ixI is y).isSome = true:=by
 have ok':FOk N is (if st.seen x then st else st.push x):=by
  split
  ·exact ok
  ·rename_i q;exact ok.push ⟨hx,hi⟩ (by simpa using q)
 obtain ⟨w,o1,o2⟩:=oC x hsc htest hitem hstop hels m _ st' r hin ok';exact ⟨aE hA (lN (iq w)),o1,o2⟩
variable {fr:List Env} {res:Option (List Nat)}
theorem qC (hW:Wok W T) (hK:W.K = hd.heap_39 P) (hT:cY tx N) (pre:List ac) (is:List ao) (r:D) (p f:Int) (post:List ac) (ok:a9 N is) (hN:N <= 900)
  (hsu:∀ i ∈ is,∀ y ∈ i.succ,(ixI is y).isSome = true) (hout:bI (sT tx pre is r p f post) fr) {m:Nat} (hres:dR (gc is) m (is.map (·.id)) ⟨[],[]⟩ = some res)
  (hp:(pre.all fun o=>o.lo (pre.length + 3 + 3 * is.length + post.length)) = true) (hr:r.lo (pre.length + 3 + 3 * is.length + post.length) = true) (ho:(post.all fun o=>o.lo (pre.length + 3 + 3 * is.length + post.length)) = true) :
  FMA W T 5 fr (.ref 169) [.ref (pre.length + 1)] (sT tx pre is r p f post) (ir tx res) (sT tx pre is r p f post):=by
 have eg:∀ G,sT tx pre is r p f post ++ G = sT tx pre is r p f (post ++ G):=fun G=>by unfold sT;simp [append_assoc]
 refine FMA.trunc (G:=[.gone,.gone,.gone,.gone,.gone]) ?_ (by rw [dF];exact td hp hr ho (by omega)) (i7 ..) (Nat.le_refl _)
 refine nv hW (by rw [hK];with_unfolding_all rfl) rfl (by rw [hK];with_unfolding_all rfl) rfl rfl rfl (names:=[Str.ofString "self"]) (df (vs1 fun _=>rfl)) (by decide +kernel) (by decide +kernel) (fun L=>⟨_,?_,.inl rfl⟩)
 rw [eg [.gone]];refine aE (EX.a (aT hW (fc hW hK (ai (aa rfl rfl))) rfl)) ?_
 refine aE (EX.a (aT hW (kl (cm hW ak (zero_le _))) rfl)) ?_
 refine aE (EX.a (aT hW (kl (cm hW ak (zero_le _))) rfl)) ?_
 refine aE (EX.a (aT hW (sU hW (rP hK rfl)) rfl)) ?_
 refine aE (EX.a (aT hW (k8 hW) rfl)) ?_
 have hd2:(sT tx pre is r p f (post ++ [.gone]))[pre.length + 2]? = some (.mdict (aC tx (pre.length + 3) is) none):=gH;have hlt2:=(List.getElem?_eq_some_iff.mp hd2).1;have four:∀ (l:List ac) (a b c d:ac),(((l ++ [a]) ++ [b]) ++ [c]) ++ [d] = l ++ [a,b,c,d]:=fun l a b c d=>by simp
 have hlen:=dF (tx:=tx) (pre:=pre) (is:=is) (ready:=r) (p:=p) (f:=f) (post:=post ++ [.gone]);refine EXA.epoch (i:=pre.length + 2) (kvs:=aC tx (pre.length + 3) is) (by rw [four,List.getElem?_append_left hlt2];exact hd2) fun ep=>?_
 rw [four,set_append_left _ _ hlt2];have hbase:((sT tx pre is r p f (post ++ [.gone])).set (pre.length + 2) (.mdict (aC tx (pre.length + 3) is) (some ep)))[pre.length + 2]? = some (.mdict (aC tx (pre.length + 3) is) (some ep)):=getElem?_set_self hlt2;have hoB:bI ((sT tx pre is r p f (post ++ [.gone])).set (pre.length + 2) (.mdict (aC tx (pre.length + 3) is) (some ep))) fr:=by
  refine bI.put ?_ hd2 (fun e m=>by intro q;cases q)
  rw [<- eg];exact hout.app
 have hsc:=we ok hsu;refine EXA.retT (Θ':=((((sT tx pre is r p f (post ++ [ac.gone])).set (pre.length + 2) (.mdict (aC tx (pre.length + 3) is) (some ep))) ++ [ac.gone,.gone,.gone,.gone]:List ac).set (pre.length + 2) (.mdict (aC tx (pre.length + 3) is) none))) (EXA.ret_unep (ep:=ep) (FE.bdy (li:=liI pre.length is) (sc:=gc is) (di:=pre.length + 2) (kvs:=aC tx (pre.length + 3) is) (ep:=ep) (N:=N) (is:=is) hW ?F (oF _ _) ?hok hres ?hlo ?hseen ?hgo) ?hdi) ?heq
 case F=>
  refine ⟨rfl,rfl,rfl,rfl,rfl,rfl,rfl,rfl,rfl,vn hK rfl,ck hK rfl,vF hK rfl,rfl,?_,?_,?_,?_,dq hK,lS hK,hbase,?_,?_,hT,hN⟩
  ·exact Eq.trans (b:=some (.ref _)) rfl (congrArg (fun k=>some (D.ref k)) (by rw [List.length_set]))
  ·exact Eq.trans (b:=some (.ref _)) rfl (congrArg (fun k=>some (D.ref k)) (by rw [List.length_set,length_append];rfl))
  ·exact Eq.trans (b:=some (.ref _)) rfl (congrArg (fun k=>some (D.ref k)) (by rw [List.length_set,length_append,length_append];rfl))
  ·exact Eq.trans (b:=some (.ref _)) rfl (congrArg (fun k=>some (D.ref k)) (by rw [List.length_set,length_append,length_append,length_append];rfl))
  ·intro x hx hi;obtain ⟨j,hj⟩:=Option.isSome_iff_exists.mp hi;obtain ⟨i,hi,hid⟩:=cC hj;refine ⟨pre.length + 3 + 3 * j + 1,pre.length + 3 + 3 * j,[some (.str (tx i.id)),some (.int i.np),some (.ref (pre.length + 3 + 3 * j + 2))],[],kK hT ok hj,?_,?_,?_⟩
   ·rw [getElem?_set_ne (by omega)];exact bJ 1 hi (by decide)
   ·rw [getElem?_set_ne (by omega)];exact bJ 0 hi (by decide)
   ·unfold liI;rw [hj];rfl
  ·intro x hx hi;obtain ⟨j,hj⟩:=Option.isSome_iff_exists.mp hi;obtain ⟨i,hi,hid⟩:=cC hj;unfold liI gc;simp only [hj,hi];rw [getElem?_set_ne (by omega)];exact bJ 2 hi (by decide)
 case hok=>
  intro x hx;obtain ⟨i,hi,rfl⟩:=List.mem_map.mp hx;refine ⟨ok.lt i hi,?_⟩
  unfold ixI;rw [List.findIdx?_isSome,List.any_eq_true];exact ⟨i.id,hx,by simp⟩
 case hlo=>
  rw [List.length_set,hlen];have hge:pre.length + 3 + 3 * is.length + post.length <= pre.length + 3 + 3 * is.length + (post ++ [ac.gone]).length:=by rw [length_append];omega
  have hall:=td (tx:=tx) (pre:=pre) (is:=is) (r:=r) (p:=p) (f:=f) (post:=post ++ [.gone]) (cS hge hp) (D.lo_mono hge r hr) (by rw [all_append,cS hge ho];rfl) (by omega)
  refine List.all_eq_true.mpr fun o hm=>?_
  rcases mem_or_eq_of_mem_set hm with q | q
  ·exact List.all_eq_true.mp hall o q
  ·have hz:=List.all_eq_true.mp hall _ (mem_of_getElem? hd2);rw [q];exact hz
 case hseen=>exact fun F ki x st hx ok=>F.cont hW x st hx ok
 case hgo=>
  intro F ki;refine oq (fun x st=>vO) (fun x st ok hx hs ho=>F.ret hW x st ok hx hs ho) ?_ m
  intro x st st' r ok hx hi hb hin;refine FE.turn hsc ok hx hi hin ?_ (fun st ok=>F.tStack x st ok) (fun st v id k rest y ok hs h hk=>F.item hW x st v id k rest y ok hs h hk) ?_ (fun Θ=>bn qv.a rfl)
  ·refine d8 (F.tSeen hW x st hx ok) (fun e=>?_) (fun e=>?_)
   ·rw [if_pos e];exact lN (d8 (F.tOn hW x st hx ok) (fun e'=>by rw [e,e'] at hb;cases hb) (fun _=>ar.a))
   ·rw [if_neg (by rw [e];decide)]
    exact F.push hW rfl rfl rfl x st ok hx hi e
  ·exact fun st v id k rest ok hs h hk=>F.stop hW hoB rfl rfl x st v id k rest ok hs h hk
 case hdi=>
  rw [List.getElem?_append_left (by rw [List.length_set];exact hlt2)];exact hbase
 case heq=>
  rw [set_append_left _ _ (by rw [List.length_set];exact hlt2),set_set]
  have:(sT tx pre is r p f (post ++ [.gone])).set (pre.length + 2) (.mdict (aC tx (pre.length + 3) is) none) = sT tx pre is r p f (post ++ [.gone]):=by
   apply ext_getElem?
   intro k;by_cases hk:pre.length + 2 = k
   ·subst hk;rw [getElem?_set_self hlt2,hd2]
   ·rw [getElem?_set_ne hk]
  rw [this,<- eg,append_assoc];rfl
section
open Builtin Builtin.ObjectAttr
theorem q5 {M:Model} {A:Around} {E:Value->Shared->Prop} {s:Shared} {Q:Value->Shared->Prop} (h:wpAny M A (newList []) Q E s):wpAny M A (newList []) (fun v s'=>v = .ref s.heap.objs.size /\ Q v s') E s:=by
 intro Γ p hΓ;have h':=h Γ p hΓ;have:Q (.ref s.heap.objs.size) { s with heap:=s.heap.push { cls:=.type "list",dict:=none,data:=.seq #[] } }:=h'
 exact wpAny_newObj_type (M:=M) (A:=A) (E:=E) (Q:=fun v s'=>v = .ref s.heap.objs.size /\ Q v s') ⟨rfl,this⟩ (by size_fits) Γ p hΓ
theorem qU {prog:Program} {w:World} {A:Around} {E:Value->Shared->Prop} {s:Shared} {elt iter:Expr} {x:Str} {px:Pos} {ifs:List Expr} {scope:Scope} {cl:List (Str × Addr)} {pos:Pos} {Q:Value->Shared->Prop} (p:Value->Bool) (F:Value->Value->Prop)
  (hclos:closureFor scope env = pure cl) (hcell:∀ y ∈ scope.names,y.2 ≠ .cell) (hkind:scope.kind = .function)
  (hnames:∀ y ∈ scope.names,y.2 = .local->scope.names.lookup y.1 = some .local) (hx:scope.names.lookup x = some .local)
  (h:wpAny (model prog w) A (eval iter env) (fun xv sI=>wpAny (model prog w) A (pyIter xv) (fun it sB=>∃ I fp wr n P St,it = .ref I /\ Walks prog w A I fp wr n P St /\ n <= sizeLine /\ St 0 sB.heap /\ (∀ b ∈ fp,b < sB.heap.objs.size) /\
   QuietOnC prog w A env scope cl x ifs elt wr P p F sB /\
   (∀ h' tk ys (vs:List Value),h'.PlainList sB.heap.objs.size ys->vs.length = n->(∀ j v,vs[j]? = some v->P j v)->Paired F (vs.filter p) ys.toList->
    (∀ b o,b ∉ wr->sB.heap.get? b = some o->h'.get? b = some o)->Q (.ref sB.heap.objs.size) { sB with heap:=h',toks:=tk })) E sI) E s)
  (hs:autoParam (∀ x,foldedSetIterable iter env x = pure x) r1T) :
  wpAny (model prog w) A (eval (.ListComp elt [⟨.Name x px,iter,ifs,0⟩] scope pos) env) Q E s:=by
 rw [eval_ListComp];refine wpAny_comprehension_free (use:=none) rfl hs hclos hkind hnames (wpAny_mono h (fun xv sI h1a=>wpAny_mono h1a (fun it sB hJ=>?_) fun _ _ e=>e) fun _ _ e=>e)
 obtain ⟨I,fp,wr,n,P,St,rfl,W,hsz,hst,hfp,hq,hQ⟩:=hJ;have inv:=q5 (comp_block_walkC (E:=E) (iter:=iter) (px:=px) (pos:=pos) (RR:=fun acc C r s'=>acc = .ref sB.heap.objs.size->compPost (model prog w) A E none Q acc C r s') W hsz p F hcell hkind hx hst hfp hq (fun D C h' tk m' ys vs hD hC hDC hn hl hpl hlen hP hF hk e=>?_))
 ·exact wpAny_mono inv (fun acc sC z=>wpAny_mono z.2 (fun cenv sD h'=>codeAny_mono h' fun r s' y=>y z.1) fun _ _ x=>x) fun _ _ x=>x
 ·cases e;exact ⟨m',hn,fun h'' hs''=>hQ h'' tk ys vs (hpl.extBut hs''.extBut hDC) hlen hP hF fun b o hbf e=>hs''.extBut b o (by rintro rfl;rw [hC] at e;cases e) (hk b o hbf e)⟩
theorem qu (hW:Wok W T) {A:Around} {E:Value->Shared->Prop} {s:Shared} {Q:Value->Shared->Prop} {cenv:Env} {x name:Str} {px pos:Pos} {m:Str->Option Value} {O:List Addr} {M0:Addr->Prop} {i j k:Nat} {a C p:Addr} {ss:List (Option D)} {ms:List (Str × D)} {d:D}
  (hkind:cenv.scope.kind = .function) (hl:cenv.kindOf x = some .local) (hd:(x == ("__debug__" : Str)) = false) (hn:s.heap.Ns cenv.locals m) (hm:m x = some (.ref a)) (R:RpH W T M0 Θ s.heap O) (ha:O[i]? = some a) (hi:Θ[i]? = some (.minst C j ss)) (hj:Θ[j]? = some (.mns ms)) (F:cT W.K C false) (S:fn W.K C name p k) (hk:ss[k]? = some (some d))
  (hQ:∀ v,Den s.heap O (Mx M0 O Θ) v d->Q v { s with toks:=s.toks + 1 }):wpAny (model W.prog W.w) A (eval (.Attribute (.Name x px) name pos) cenv) Q E s:=by
 refine Attribute_any_ (wpAny_Name (wpAny_loadName_local hkind hl hn hm ?_) hd) (by rw [arm_eval_Attribute];rfl)
 refine cD R ha hi hj fun dx vs od vk e1 ej e2 I hn hv hl dl=>?_
 obtain ⟨v,ev,dv⟩:=dl.get hk;refine get_bind R.gd.k I F.ga (S.find _) F.gk (wpAny_call (slot_get R.gd.k I S.slot (v:=v) (by
  show ((vs.toArray)[k]?).join = some v;simp [ev]) ?_))
 show wpAny _ _ (handedOut v) _ _ _;rw [handedOut_of dv.handed];exact wpAny_pure (hQ v dv)
noncomputable def hX (Θ:List ac):D->Option D
 | .ref a=>(match Θ[a]? with
  | some (.minst _ _ [some s,some (.int np),_])=>if np = 0 then some s else none
  | _=>none)
 | _=>none
noncomputable def cw (Θ:List ac) (kvs:List (Str × D)):List D:=kvs.filterMap fun kv=>hX Θ kv.2
theorem bY.at {h:Heap} {O:List Addr} {M:Addr->Prop} {vk:List (Str × Value)} {kvs:List (Str × D)} (x:bY h O M vk kvs):∀ {j:Nat} {k:Str} {v:Value},vk[j]? = some (k,v)->∃ d,kvs[j]? = some (k,d) /\ Den h O M v d:=by
 induction x with
 | nil=>intro j k v e;simp at e
 | cons y _ ih=>
  intro j k v e
  cases j with
  | zero=>simp at e;obtain ⟨rfl,rfl⟩:=e;exact ⟨_,rfl,y⟩
  | succ j=>obtain ⟨d,e',z⟩:=ih (j:=j) (by simpa using e);exact ⟨d,by simpa using e',z⟩
noncomputable def yw (O:List Addr) (Θ:List ac) (v:Value):Prop:=∃ (a:Nat) (b:Addr) (k:Nat) (x:Str) (sc:Option D),O[a]? = some b /\ v = .ref b /\ Θ[a]? = some (.minst 82 k [some (.str x),some (.int 0),sc])
noncomputable def yB (O:List Addr) (Θ:List ac) (v y:Value):Prop:=∃ (a:Nat) (b:Addr) (k:Nat) (x:Str) (np:Int) (sc:Option D) (tk:Tok),O[a]? = some b /\ v = .ref b /\ Θ[a]? = some (.minst 82 k [some (.str x),some (.int np),sc]) /\ y = .str x tk
noncomputable def pJ (O:List Addr) (Θ:List ac) (v:Value):Bool:=@decide (yw O Θ v) (Classical.propDecidable _)
theorem tQ {O:List Addr} {v:Value}:pJ O Θ v = true ↔ yw O Θ v:=by unfold pJ;exact @decide_eq_true_iff _ (Classical.propDecidable _)
theorem rC {O:List Addr} (nd:O.Nodup) {a:Nat} {b:Addr} {k:Nat} {x:Str} {np:Int} {sc:Option D} (h1:O[a]? = some b) (h2:Θ[a]? = some (.minst 82 k [some (.str x),some (.int np),sc])):pJ O Θ (.ref b) = decide (np = 0):=by
 rw [Bool.eq_iff_iff,tQ,decide_eq_true_eq];constructor
 ·rintro ⟨a',b',k',x',sc',e1,e2,e3⟩
  cases e2;have:a' = a:=eF nd e1 h1;subst this;rw [h2] at e3;cases e3;rfl
 ·rintro rfl;exact ⟨a,b,k,x,sc,h1,rfl,h2⟩
theorem xw {h h':Heap} {O O':List Addr} {M M':Addr->Prop} (nd:O.Nodup) {vk:List (Str × Value)} {kvs:List (Str × D)} (x:bY h O M vk kvs):(∀ kv ∈ kvs,∃ a k s np sc m,kv.2 = .ref a /\ Θ[a]? = some (.minst 82 k [some (.str s),some (.int np),sc]) /\ Θ[k]? = some (.mns m))->
  ∀ ys,Paired (yB O Θ) ((vk.map (·.2)).filter (pJ O Θ)) ys->am h' O' M' ys (cw Θ kvs):=by
 induction x with
 | nil=>intro _ ys p;cases p;exact .nil
 | cons y _ ih=>
  rename_i k v d vk kvs _;intro hall ys p;obtain ⟨a,k',s,np,sc,m,h1,h2,h3⟩:=hall _ (.head _);simp only at h1;subst h1;have ih':=ih fun kv hkv=>hall kv (.tail _ hkv)
  induction y using rE with
  | ref hb=>
  rename_i b;have e1:=rC nd hb h2;have e2:hX Θ (.ref a) = if np = 0 then some (.str s) else none:=by unfold hX;simp only [h2]
  rw [map_cons,filter_cons] at p;by_cases hz:np = 0
  ·rw [e1,if_pos (decide_eq_true hz)] at p;have e3:cw Θ ((k,.ref a) :: kvs) = .str s :: cw Θ kvs:=by unfold cw;rw [List.filterMap_cons];simp only [e2,if_pos hz]
   rw [e3]
   cases p with
   | cons f p=>
    obtain ⟨a',b',k'',s',np',sc',tk,f1,f2,f3,rfl⟩:=f;cases f2;have:=eF nd f1 hb;subst this;rw [h2] at f3;cases f3;exact .cons (.str ..) (ih' _ p)
  ·rw [e1,if_neg (by simp [hz])] at p
   have e3:cw Θ ((k,.ref a) :: kvs) = cw Θ kvs:=by unfold cw;rw [List.filterMap_cons];simp only [e2,if_neg hz]
   rw [e3];exact ih' _ p
theorem k6 (hW:Wok W T) {ob:Expr} {p1 p2 p3 p4 p5 p6 p7 p8 p9 pos:Pos} {c:Nat} {scope:Scope} {di:Nat} {kvs:List (Str × D)} {ep:Option Nat} (F:cT W.K 82 false) (S0:fn W.K 82 "node" 83 0) (S1:fn W.K 82 "npredecessors" 84 1)
  (ho:EVM W T n env μ Θ (eval ob env) (.ref di) μ Θ) (hi:Θ[di]? = some (.mdict kvs ep)) (hsz:kvs.length <= 1000)
  (hall:∀ kv ∈ kvs,∃ a k s np sc m,kv.2 = .ref a /\ Θ[a]? = some (.minst 82 k [some (.str s),some (.int np),sc]) /\ Θ[k]? = some (.mns m))
  (hclos:autoParam (closureFor scope env = pure []) rfT) (hcell:autoParam (∀ y ∈ scope.names,y.2 ≠ .cell) deT) (hkind:autoParam (scope.kind = .function) rfT) (hnames:autoParam (∀ y ∈ scope.names,y.2 = .local->scope.names.lookup y.1 = some .local) deT) (hx:autoParam (scope.names.lookup (Str.ofString "i") = some NameKind.local) deT)
  (hb:autoParam (attributeBase ob "values" env (eval ob env) = eval ob env) rfT) (hline:autoParam ((p4.endLine == p5.line) = true) rfT) (hs:autoParam (∀ x,foldedSetIterable (.Call (.Attribute ob "values" p4) [] [] p5) env x = pure x) r1T) :
  EVM W T n env μ Θ (eval (.ListComp (.Attribute (.Name "i" p1) "node" p2) [⟨.Name "i" p3,.Call (.Attribute ob "values" p4) [] [] p5,[.Compare (.Attribute (.Name "i" p6) "npredecessors" p7) [.Eq] [.Constant (.int 0) c p8] p9],0⟩] scope pos) env) (.ref Θ.length) μ (Θ ++ [.mlist (cw Θ kvs)]):=by
 refine .of ?_;intro A s vm O M0 r t R Q E q;refine wpAny_with_toks (n:=s.toks) (Nat.le_refl _) ?_
 refine qU (cl:=[]) (pJ O Θ) (yB O Θ) hclos hcell hkind hnames hx ?_ hs
 refine fM (id := "dict.values") hb rfl hline rfl (ho.run A s vm O M0 r t R _ _ fun v h1a tA vm1 O1 lA R1 xA dA=>?_)
 have eO:O1 = O:=by
  apply ext_getElem?
  intro k
  cases e:O[k]? with
  | some a=>exact xA.ext.pre k a e
  | none=>rw [List.getElem?_eq_none_iff] at e ⊢;rw [R1.len,<- R.len];exact e
 subst eO
 induction dA using rE with
 | ref ha=>
 rename_i d;obtain ⟨vk,eI,D1,_,dk⟩:=R1.obs di d _ ha hi;refine getMethod_builtin (s:={ s with heap:=h1a,toks:=tA }) D1.dictOf.typeIs PySem.F.plainAttrs_dict PySem.F.slot_dict_values PySem.F.type_dict_values D1.dictOf.mapOf.noDict ⟨rfl,?_⟩
 refine spliced_none ?_
 have hall':∀ (j:Nat) (k:Str) (v:Value),vk[j]? = some (k,v)->∃ a b k' x np sc m,kvs[j]? = some (k,.ref a) /\ v = .ref b /\ O1[a]? = some b /\ Θ[a]? = some (.minst 82 k' [some (.str x),some (.int np),sc]) /\ Θ[k']? = some (.mns m):=fun j k v e=>by
  obtain ⟨dd,e',dv⟩:=dk.at e;obtain ⟨a,k',x,np,sc,m,h1,h2,h3⟩:=hall _ (mem_of_getElem? e');simp only at h1;subst h1
  induction dv using rE with
  | ref hb'=>exact ⟨a,_,k',x,np,sc,m,e',rfl,hb',h2,h3⟩
 refine call_meetsIn (s:={ s with heap:=h1a,toks:=tA }) PySem.F.slot_dict_values D1.dictOf.typeIs PySem.F.entry_dict_values (PySem.F.args_dict_values_1 _) (meets_dict_values (strKind W.prog W.w) d (R1.toRpH.sys hW ha)) ⟨⟨_,D1.dictOf⟩,?_⟩
 have hdn:d ≠ h1a.objs.size:=fun q=>by have:=R1.there d (mem_of_getElem? ha);rw [q,az] at this;cases this
 have kp2:∀ a o,h1a.get? a = some o->(h1a.push { cls:=.type "dict_values",data:=.fields #[.ref d] }).get? a = some o:=fun a o e=>Heap.get?_push_of_some _ e
 refine wpAny_pyIter_values (v:=h1a.objs.size) (d:=d) (kvs:=vk) (ep:=eI) (knd:=strKind W.prog W.w) ⟨_,Heap.get?_push_size _ rfl,rfl,rfl⟩ (D1.at' fun o e=>kp2 _ o e) ?_
 have hI:(h1a.push { cls:=.type "dict_values",data:=.fields #[.ref d] }).objs.size = h1a.objs.size + 1:=Heap.size_push ..;have hdl:d < h1a.objs.size:=by obtain ⟨o,e⟩:=Option.isSome_iff_exists.mp (R1.there d (mem_of_getElem? ha));exact Heap.lt_size e
 have up:∀ {h3a:Heap},(∀ b o,b ∉ [h1a.objs.size + 1]->((h1a.push { cls:=.type "dict_values",data:=.fields #[.ref d] }).push { cls:=.type "dict_valueiterator",data:=.fields #[.ref d,.int 0 0,.int vk.length 0,.int eI 0] }).get? b = some o->h3a.get? b = some o)->∀ a o,h1a.get? a = some o->h3a.get? a = some o:=fun {h3a} kp a o e=>by
  have:=Heap.lt_size e;exact kp a o (fun q=>by rw [List.mem_singleton.mp q] at this;exact not_lt_of_le (le_succ _) this) (Heap.get?_push_of_some _ (kp2 a o e))
 rw [hI];have hlenv:vk.length = kvs.length:=dk.length;refine ⟨h1a.objs.size + 1,_,_,_,_,_,rfl,Walks.dictValues r.handled (h1a.objs.size + 1) d (fun q=>by rw [q] at hdl;exact not_lt_of_le (le_succ _) hdl) vk eI,by rw [hlenv,sizeLine_eq];omega,⟨⟨_,by rw [<- hI];exact Heap.get?_push_size _ rfl,rfl,rfl⟩,D1.at' fun o e=>Heap.get?_push_of_some _ (kp2 _ o e)⟩,?_,⟨?_,?_⟩,?_⟩
 ·intro b hb;rw [Heap.size_push,hI];rcases List.mem_cons.mp hb with rfl | hb
  ·exact lt_succ_self _
  ·rw [List.mem_singleton.mp hb];exact Nat.lt_of_lt_of_le hdl (le_of_lt (Nat.lt_of_lt_of_le (lt_succ_self _) (le_succ _)))
 ·rintro C i v sC mK E' hC ⟨k,hk⟩ hn hm kp tk
  obtain ⟨a,b,k',x,np,sc,m,_,rfl,hb',h2,h3⟩:=hall' _ _ _ hk;have R3:=R1.toRpH.step (Stp.of hW R1.gd (up kp));refine wpAny_tests_one (wpAny_isTrue_Compare1 (qu hW (cenv:=compEnvC scope [] C env) hkind (lookup_relabel_local hx) (by decide) hn hm R3 hb' h2 h3 F S1 rfl fun v' dv=>?_))
  induction dv using iE;refine wpAny_Constant_int (PyProof.Rows.eq_int (wpAny_truthy_bool ⟨?_,_,_,rfl,fun _ _ e=>e⟩))
  rw [rC R1.nd hb' h2];by_cases hz:np = 0 <;> simp [hz]
 ·rintro C i v sC mK E' hC ⟨k,hk⟩ hp hn hm kp tk
  obtain ⟨a,b,k',x,np,sc,m,_,rfl,hb',h2,h3⟩:=hall' _ _ _ hk;have R3:=R1.toRpH.step (Stp.of hW R1.gd (up kp));refine qu hW (cenv:=compEnvC scope [] C env) hkind (lookup_relabel_local hx) (by decide) hn hm R3 hb' h2 h3 F S0 rfl fun v' dv=>?_
  induction dv using sE;exact ⟨⟨a,b,k',x,np,sc,_,hb',rfl,h2,rfl⟩,_,_,rfl,fun _ _ e=>e⟩
 ·intro h' tk ys vs hpl hlen hP hF hkp le;have kp:=up hkp;generalize eD:((h1a.push { cls:=.type "dict_values",data:=.fields #[.ref d] }).push { cls:=.type "dict_valueiterator",data:=.fields #[.ref d,.int 0 0,.int vk.length 0,.int eI 0] }).objs.size = Dd at *;have hDs:h1a.objs.size <= Dd:=by rw [<- eD,Heap.size_push,hI];exact Nat.le_succ_of_le (le_succ _)
  have hDn:h1a.get? Dd = none:=Heap.get?_none_of_le hDs;have st:Stp W T h1a h':=.of hW R1.gd kp;have evs:vs = vk.map (·.2):=by
   apply ext_getElem?
   intro j;rw [getElem?_map]
   cases e:vs[j]? with
   | some v=>obtain ⟨k,e'⟩:=hP j v e;rw [e'];rfl
   | none=>rw [List.getElem?_eq_none_iff] at e;rw [List.getElem?_eq_none_iff.mpr (by omega)];rfl
  have dl:am h' (O1 ++ [Dd]) (fun b=>Mx M0 O1 Θ b \/ b = Dd) ys.toList (cw Θ kvs):=by
   rw [evs] at hF;exact xw R1.nd dk hall _ hF
  obtain ⟨R',x'⟩:=R1.toRpH.new (ob:=.mlist (cw Θ kvs)) st hDn (Nat.le_trans R1.gd.size hDs) (by obtain ⟨j,e⟩:=hpl;rw [e];rfl) ⟨ys.toList,by simpa using hpl,dl⟩
  exact q _ h' tk vm1 _ le (R1.called R' x') (xA.trans x'.wide R.len) (.ref (by rw [<- R1.len];simp))
end
theorem wA (h:EVP W T n env μ e .none) (he:autoParam (∀ whole,isTrue e env whole = (do let v <- whole;standAt e.pos;holding [v] (truthy v))) r1T):TST W T n env μ e false:=by
 refine .of ?_;intro A s vm O M r k F V Q E q;refine isTrue_plain (h.run A s vm O M r k F V _ E fun v h1a tA lA sI dA=>?_) (he _)
 induction dA using nE;exact fun _ _ _=>q h1a tA lA sI
theorem EXA.forget {c:Sem Flow} (h:EXA W T n env out j0 μ Θ c (.nxt μ' Θ')):EXA W T n env out j0 μ Θ c (.nxt (fun _=>none) Θ'):=by
 refine .of ?_;intro A s vm O r kn t R Q E q;refine h.run A s vm O r kn t R Q E fun f h' tk le p=>q f h' tk le ?_
 obtain ⟨e,vm',O',R',x⟩:=p;exact ⟨e,vm',O',{ R' with vars:=fun y d e=>by cases e },x⟩
theorem vi (hK:W.K = hd.heap_39 P):io W.K 179 "_find_cycle" 169:=by
 rw [hK];exact ⟨by with_unfolding_all rfl,by with_unfolding_all rfl,by with_unfolding_all rfl⟩
noncomputable def aB (is:List ao):List Nat:=(is.filter fun i=>decide (i.np = 0)).map (·.id)
theorem oK {pre:List ac} {r:D} {p:Int}:cw (sT tx pre is r p f post) (aC tx (pre.length + 3) is) = (aB is).map fun j=>.str (tx j):=by
 have h:∀ (js:List ao) (c:Nat),(∀ j i,js[j]? = some i->is[c + j]? = some i)->cw (sT tx pre is r p f post) (aC tx (pre.length + 3 + 3 * c) js) = (aB js).map fun j=>.str (tx j):=by
  intro js
  induction js with
  | nil=>intro c _;rfl
  | cons i js ih=>
   intro c hc;have h0:=hc 0 i rfl;have e1:=bJ (tx:=tx) (pre:=pre) (is:=is) (ready:=r) (p:=p) (f:=f) (post:=post) 1 h0 (by decide)
   have e2:=ih (c + 1) fun j i' e=>by have:=hc (j + 1) i' (by simpa using e);rw [show c + 1 + j = c + (j + 1) by omega];exact this
   rw [show pre.length + 3 + 3 * (c + 1) = pre.length + 3 + 3 * c + 3 by omega] at e2
   rw [aC];unfold cw at e2 ⊢;have e3:hX (sT tx pre is r p f post) (.ref (pre.length + 3 + 3 * c + 1)) = if i.np = 0 then some (.str (tx i.id)) else none:=by
    unfold hX;have e1':(sT tx pre is r p f post)[pre.length + 3 + 3 * c + 1]? = some (.minst 82 (pre.length + 3 + 3 * c) [some (.str (tx i.id)),some (.int i.np),some (.ref (pre.length + 3 + 3 * c + 2))]):=e1;simp only [e1']
   rw [List.filterMap_cons];simp only [e3];unfold aB at e2 ⊢;rw [filter_cons];by_cases hz:i.np = 0
   ·simp only [hz,if_true,decide_true,map_cons];rw [e2]
   ·simp only [hz,if_false,decide_false];rw [e2];rfl
 have:=h is 0 fun j i e=>by rw [Nat.zero_add];exact e
 simpa using this
theorem wx (hW:Wok W T) (hK:W.K = hd.heap_39 P) (hT:cY tx N) (pre:List ac) (is:List ao) (p f:Int) (post:List ac) (ok:a9 N is) (hN:N <= 900)
  (hsu:∀ i ∈ is,∀ y ∈ i.succ,(ixI is y).isSome = true) (hout:bI (sT tx pre is .none p f post) fr) {m:Nat} (hres:dR (gc is) m (is.map (·.id)) ⟨[],[]⟩ = some none)
  (hp:(pre.all fun o=>o.lo (pre.length + 3 + 3 * is.length + post.length)) = true) (ho:(post.all fun o=>o.lo (pre.length + 3 + 3 * is.length + post.length)) = true) :
  FMA W T 6 fr (.ref 134) [.ref (pre.length + 1)] (sT tx pre is .none p f post) .none (sT tx pre is (rk pre is (post.length + 1)) p f (post ++ [.gone,.mlist ((aB is).map fun j=>.str (tx j))])):=by
 have hil:is.length <= 900:=by
  have:=dU ok.nd (fun x hx=>by obtain ⟨i,hi,rfl⟩:=List.mem_map.mp hx;exact ok.lt i hi)
  simp at this;omega
 refine nv hW (by rw [hK];with_unfolding_all rfl) rfl (by rw [hK];with_unfolding_all rfl) rfl rfl rfl (names:=[Str.ofString "self"]) (df (vs1 fun _=>rfl)) (by decide +kernel) (by decide +kernel) (fun L=>⟨.nxt (fun _=>none) _,?_,.inr ⟨_,rfl,rfl⟩⟩)
 apply EXA.forget
 rw [gR];refine aE (d8 (b:=false) (cI (dj hW (bh hK) (ai (aa rfl rfl)) co b9 rfl (dY hK)) (ai cH) el) (fun z=>nomatch z) (fun _=>ar.a)) ?_
 have eR:sT tx pre is .none p f (post ++ [.gone]) ++ [.mlist (cw (sT tx pre is .none p f (post ++ [.gone])) (aC tx (pre.length + 3) is))] = sT tx pre is .none p f (post ++ [.gone,.mlist ((aB is).map fun j=>.str (tx j))]):=by
  rw [gR,oK,append_assoc];rfl
 have eD:D.ref (sT tx pre is .none p f (post ++ [.gone])).length = rk pre is (post.length + 1):=by
  unfold rk;rw [dF,length_append];rfl
 have hall:∀ kv ∈ aC tx (pre.length + 3) is,∃ a k s np sc m,kv.2 = .ref a /\ (sT tx pre is .none p f (post ++ [.gone]))[a]? = some (.minst 82 k [some (.str s),some (.int np),sc]) /\ (sT tx pre is .none p f (post ++ [.gone]))[k]? = some (.mns m):=by
  have h:∀ (js:List ao) (c:Nat),(∀ j i,js[j]? = some i->is[c + j]? = some i)->∀ kv ∈ aC tx (pre.length + 3 + 3 * c) js,∃ a k s np sc m,kv.2 = .ref a /\ (sT tx pre is .none p f (post ++ [.gone]))[a]? = some (.minst 82 k [some (.str s),some (.int np),sc]) /\ (sT tx pre is .none p f (post ++ [.gone]))[k]? = some (.mns m):=by
   intro js
   induction js with
   | nil=>intro c _ kv hkv;cases hkv
   | cons i js ih=>
    intro c hc kv hkv;rw [aC] at hkv;have h0:=hc 0 i rfl;rcases List.mem_cons.mp hkv with rfl | hkv
    ·exact ⟨_,_,_,_,_,_,rfl,bJ 1 h0 (by decide),bJ 0 h0 (by decide)⟩
    ·exact ih (c + 1) (fun j i' e=>by have:=hc (j + 1) i' (by simpa using e);rw [show c + 1 + j = c + (j + 1) by omega];exact this) kv (by rw [show pre.length + 3 + 3 * (c + 1) = pre.length + 3 + 3 * c + 3 by omega];exact hkv)
  exact h is 0 fun j i e=>by rw [Nat.zero_add];exact e
 refine aE (EX.a (EX.nxtT (dN hW (bh hK) (((k6 hW (dq hK) (pT hK) (iI hK) (fc hW hK (ai (aa rfl rfl))) gH (by rw [iw];omega) hall).eqT eR).eqd eD) (ai (aa rfl rfl)) co b9 (ry hK) (le_of_ble_eq_true rfl)) (fQ (ready':=rk pre is (post.length + 1)) (p':=p) (f':=f)))) ?_
 have L1:(sT tx pre is .none p f post).length = pre.length + 3 + 3 * is.length + post.length:=dF;rw [L1];have hset:∀ vm,(sT tx pre is (rk pre is (post.length + 1)) p f (post ++ [.gone,.mlist ((aB is).map fun j=>.str (tx j))])).set (pre.length + 3 + 3 * is.length + post.length) vm = sT tx pre is (rk pre is (post.length + 1)) p f (post ++ [vm,.mlist ((aB is).map fun j=>.str (tx j))]):=fun vm=>by
  rw [dC,set_append_right _ _ (Nat.le_refl _),sub_self];rfl
 have hgone:(sT tx pre is (rk pre is (post.length + 1)) p f (post ++ [.gone,.mlist ((aB is).map fun j=>.str (tx j))]))[pre.length + 3 + 3 * is.length + post.length]? = some .gone:=by
  rw [cF,getElem?_append_right (Nat.le_refl _),sub_self];rfl
 refine aE (jo hW (gg (d:=.none) (Θ':=sT tx pre is (rk pre is (post.length + 1)) p f (post ++ [.gone,.mlist ((aB is).map fun j=>.str (tx j))])) hW (bh hK) (vi hK) (ai (aa rfl rfl)) co b9 rfl hgone hgone rfl (fun vm=>?_)) rfl) ?_
 ·rw [hset];refine qC hW hK hT pre is _ p f _ ok hN hsu ?_ hres ?_ ?_ ?_
  ·intro e he;rcases List.mem_cons.mp he with rfl | he
   ·exact ⟨_,vm,by rw [cF post.length,getElem?_append_right (Nat.le_refl _),sub_self];rfl⟩
   ·have h1:bI (sT tx pre is (rk pre is (post.length + 1)) p f post) fr:=by
     have:=hout.put (o':=.mns (fw (pre.length + 2) (rk pre is (post.length + 1)) p f)) b9 (fun e m q=>by cases q)
     rw [fQ] at this;exact this
    have h3:∀ G,sT tx pre is (rk pre is (post.length + 1)) p f post ++ G = sT tx pre is (rk pre is (post.length + 1)) p f (post ++ G):=fun G=>by unfold sT;simp [append_assoc]
    rw [<- h3];exact h1.app e he
  ·exact cS (by rw [length_append];omega) hp
  ·exact decide_eq_true (by rw [length_append];simp only [length_cons,length_nil];omega)
  ·rw [all_append,cS (by rw [length_append];omega) ho]
   have hstr:∀ k,D.loL k ((aB is).map fun j=>.str (tx j)) = true:=fun k=>by
    have:=i7 tx (some (aB is)) k;simp only [ir,D.lo] at this;exact this
   simp only [all_cons,all_nil,ac.lo,Bool.true_and,Bool.and_true];exact hstr _
 ·exact lN (d8 (b:=false) (fz (be.refl _ _) (wA (aa rfl rfl))) (fun z=>nomatch z) (fun _=>ar.a))
theorem Rp.slots0 (hW:Wok W T) (R:Rp W T env Nox μ Θ h vm O) (hout:bI Θ out) (hf:env.frame = some env.locals) (hid:Addr->Prop)
  (hhid:∀ a,hid a->∃ (j:Nat) (ob:Obj) (es:Array DictEntry) (ep:Nat),O[j]? = some a /\ Θ[j]? = some .gone /\ h.get? a = some ob /\ ob.data = .dict es ep)
  (k:∀ a ob,¬ hid a->¬ Fra env out a->h.get? a = some ob->h'.get? a = some ob) (us:h.UpToSlots h') :
  Rp W T env Nox μ Θ h' vm O /\ ∀ a,(h.get? a).isSome->(h'.get? a).isSome:=by
 have dct:∀ a,hid a \/ Fra env out a->W.nb <= a /\ ∃ ob es ep,h.get? a = some ob /\ ob.data = .dict es ep:=fun a q=>by
  rcases q with q | q
  ·obtain ⟨j,ob,es,ep,h1,_,h3,h4⟩:=hhid a q;exact ⟨R.above a (mem_of_getElem? h1),ob,es,ep,h3,h4⟩
  ·exact gX R hout hf q
 have k':∀ a ob,¬ (hid a \/ Fra env out a)->h.get? a = some ob->h'.get? a = some ob:=fun a ob q e=>k a ob (fun z=>q (.inl z)) (fun z=>q (.inr z)) e
 have gr:∀ a,(h.get? a).isSome->(h'.get? a).isSome:=fun a e=>by
  obtain ⟨ob,eo⟩:=Option.isSome_iff_exists.mp e;by_cases f:hid a \/ Fra env out a
  ·obtain ⟨_,ob,es,ep,eo,hd⟩:=dct a f;obtain ⟨sl,e'⟩:=us a ob eo fun vs q=>by rw [hd] at q;cases q
   rw [e'];rfl
  ·rw [k' a ob f eo];rfl
 have notfr:∀ a ob,h.get? a = some ob->(∀ es ep,ob.data ≠ .dict es ep)->¬ (hid a \/ Fra env out a):=fun a ob e hd f=>by
  obtain ⟨_,ob',es,ep,eo,hd'⟩:=dct a f;rw [e] at eo;cases eo;exact hd es ep hd'
 have ks:aN (Mx Nox O Θ) h h':=fun a ob ys j _ e hd=>k' a ob (notfr a ob e fun es ep q=>by rw [hd] at q;cases q) e
 refine ⟨⟨⟨R.gd.base hW fun a ob ha e=>k' a ob (fun f=>?_) e,fun a m=>m.elim,R.len,R.nd,R.apart,R.above,fun a ha=>gr a (R.there a ha),fun i a ob h1 h2=>?_⟩,?_,fun y d e=>?_,R.sep⟩,gr⟩
 ·obtain ⟨hb,ob',es,ep,eo,hd⟩:=dct a f;rw [e] at eo;cases eo;exact ha.elim (fun h1=>absurd hb (Nat.not_le.mpr h1)) (e6 hd)
 ·have ob':=R.obs i a ob h1 h2;by_cases hfr:∃ e m,ob = .mframe e m
  ·obtain ⟨e,m,rfl⟩:=hfr;obtain ⟨e1,e2,hns⟩:=ob';exact ⟨e1,e2,us.ns hns⟩
  ·refine ob'.mv (fun hg ob2 e=>k' a ob2 (fun f=>?_) e) ks
   rcases f with f | f
   ·obtain ⟨j,_,_,_,g1,g2,_,_⟩:=hhid a f;have:=eF R.nd h1 g1;subst this;rw [h2] at g2;cases g2;exact hg rfl
   ·rcases gt R hout hf f with rfl | ⟨j,e',m,g1,g2⟩
    ·exact R.sep _ ⟨i,ob,h1,h2,hg⟩ (.inl rfl)
    ·have:=eF R.nd h1 g1;subst this;rw [h2] at g2;cases g2;exact hfr ⟨e',m,rfl⟩
 ·have F:=R.fm;refine ⟨F.kind,F.glob,F.blt,?_,fun y c e=>?_,F.apart,F.above,F.nocell⟩
  ·obtain ⟨m,hn,hm⟩:=F.loc;exact ⟨m,us.ns hn,hm⟩
  ·obtain ⟨ob,ho,hd⟩:=F.cell y c e;exact ⟨ob,k' c ob (notfr c ob ho fun es ep q=>by rw [hd] at q;cases q) ho,hd⟩
 ·obtain ⟨v,a,b⟩:=R.vars y d e;exact ⟨v,a,b.kq ks⟩
structure FMR (W:Wd) (T:Heap->Prop) (n:Nat) (fr:List Env) (f:Value) (args:List D) (Θ:List ac) (C:Addr) (Θ':List ac):Prop where
 of ::
 code:∀ (A:Around) (s:Shared) (O:List Addr) (vals:List Value),aL n A->A.frames = some fr->0 <= s.toks->RpH W T Nox Θ s.heap O->am s.heap O (Mx Nox O Θ) vals args->
  ∀ (P:Result->Shared->Prop),(∀ e a0 h0a h' base tk O' (hid:Addr->Prop),s.toks <= tk->RpH W T Nox Θ' h0a O'->Nx W Nox s.heap O Θ h0a O' Θ'->
   (∀ a,hid a->∃ (j:Nat) (ob:Obj) (es:Array DictEntry) (ep:Nat),O'[j]? = some a /\ Θ'[j]? = some .gone /\ h0a.get? a = some ob /\ ob.data = .dict es ep)->(∀ a ob,¬ hid a->(∀ ev ∈ fr,ev.frame ≠ some a)->h0a.get? a = some ob->base.get? a = some ob)->(∀ a,hid a->s.heap.get? a = none)->(∀ a ob,base.get? a = some ob->h0a.get? a = some ob)->
   Heap.FlyingW base fr e (.ref C) a0 h'->h0a.UpToSlots h'->P (.error (.ref e)) { s with heap:=h',toks:=tk })->codeAny (model W.prog W.w) A (.call f ⟨vals,[]⟩) P s
theorem rz (hK:W.K = hd.heap_39 P):∃ nm q bs hdct sn sub ab col dd k0 k1 k2 k3 k5,W.K.lookup 97 = some (excClassObj nm q 97 96 bs [.type "ValueError",.type "Exception",.type "BaseException",.type "object"] hdct sn sub ab col dd k0 k1 k2 k3 k5 "ValueError.__new__"):=
 ⟨_,_,_,_,_,_,_,_,_,_,_,_,_,_,by rw [hK];with_unfolding_all rfl⟩
theorem yA (hK:W.K = hd.heap_39 P):∃ mN,(∀ h:Heap,W.K.In h->h.Ns 96 mN) /\ mN "__init__" = none:=by
 have e:∃ o es ep,W.K.lookup 96 = some o /\ o.data = .dict es ep /\ StrKeys es /\ nsFind es "__init__" = none:=by
  rw [hK];refine ⟨_,_,_,by with_unfolding_all rfl,rfl,?_,?_⟩
  ·intro e he;have he':=Array.mem_toList_iff.mpr he;simp only [List.mem_cons,not_mem_nil,or_false] at he';rcases he' with rfl | rfl | rfl | rfl | rfl <;> exact ⟨_,_,rfl⟩
  ·with_unfolding_all rfl
 obtain ⟨o,es,ep,e1,e2,e3,e4⟩:=e;exact ⟨nsFind es,fun h hk=>⟨o,es,ep,hk 96 o e1,e2,e3,fun _=>rfl⟩,e4⟩
structure EXR (W:Wd) (T:Heap->Prop) (n:Nat) (env:Env) (out:List Env) (j0:Nat) (μ:Str->Option D) (Θ:List ac) (c:Sem Flow) (C:Addr) (Θ':List ac):Prop where
 of ::
 run:∀ (A:Around) (s:Shared) (vm:Str->Option Value) (O:List Addr),aL n A->Kn A env out j0 O->0 <= s.toks->Rp W T env Nox μ Θ s.heap vm O->
  ∀ (Q:Flow->Shared->Prop) (E:Value->Shared->Prop),(∀ e h0a h' args tk μ' vm' O',s.toks <= tk->Rp W T env Nox μ' Θ' h0a vm' O'->Nx W (Fx env) s.heap O Θ h0a O' Θ'->Heap.MadeExcOf h0a h' e (.ref C) args->E (.ref e) { s with heap:=h',toks:=tk })->wpAny (model W.prog W.w) A c Q E s
theorem j3 {st:Stmt} (h1:EXA W T n env out j0 μ Θ (exec st env) (.nxt μ' Θ')) (h2:EXR W T n env out j0 μ' Θ' (execs rest env) C Θ''):EXR W T n env out j0 μ Θ (execs (st :: rest) env) C Θ'':=by
 refine .of ?_;intro A s vm O r kn t R Q E q;refine wpAny_execs_cons (h1.run A s vm O r kn t R _ _ fun f h' tk le p=>?_)
 obtain ⟨rfl,vm',O',R',x⟩:=p;exact h2.run A _ vm' O' r (kn.ext x.ext) (Nat.le_trans t le) R' Q E fun e h0a h'' args tk' μ'' vm'' O'' le' R'' x' me=>q e h0a h'' args tk' μ'' vm'' O'' (Nat.le_trans le le') R'' (x.trans x' R.len) me
theorem qJ {st:Stmt} (h:EXR W T n env out j0 μ Θ (exec st env) C Θ'):EXR W T n env out j0 μ Θ (execs (st :: rest) env) C Θ':=by
 refine .of ?_;intro A s vm O r kn t R Q E q;exact wpAny_execs_cons (h.run A s vm O r kn t R _ _ q)
theorem yL (ht:TSM W T n env μ Θ test true μ' Θ') (h:EXR W T n env out j0 μ' Θ' (execs body env) C Θ''):EXR W T n env out j0 μ Θ (exec (.If test body orelse pos) env) C Θ'':=by
 refine .of ?_;intro A s vm O r kn t R Q E q;refine wpAny_If (ht.run A s vm O _ r t R _ _ fun h' tk vm' O' le R' x=>?_)
 exact h.run A _ vm' O' r (kn.ext x.ext) (Nat.le_trans t le) R' Q E fun e h0a h'' args tk' μ'' vm'' O'' le' R'' x' me=>q e h0a h'' args tk' μ'' vm'' O'' (Nat.le_trans le le') R'' (x.trans x' R.len) me
theorem uN (hW:Wok W T) (hK:W.K = hd.heap_39 P) {eZ:Expr} {es:List Expr} (hx:Glb W env "CycleError" (.ref 97)) (ha:m0 W T n env μ Θ (eZ :: es) ds μ' Θ') (hl:ds.length <= 1000)
  (he:autoParam (starEach (eZ :: es) env = (false,eval eZ env) :: starEach es env) rfT) (hplain:autoParam (∀ p,(backTo p (starEach es env)).any (·.1) = false) r1T) :
  EXR W T n env out j0 μ Θ (exec (.Raise (some (.Call (.Name "CycleError" np) (eZ :: es) [] cpos)) none pos) env) 97 Θ':=by
 refine .of ?_;intro A s vm O r kn t R Q E q;obtain ⟨nm,qn,bs,hdct,sn,sub,ab,col,dd,k0,k1,k2,k3,k5,hC⟩:=rz hK;obtain ⟨mN,hN,hni⟩:=yA hK;have hpl:(backTo cpos (starEach (eZ :: es) env)).any (·.1) = false:=by
  rw [he];show (false || (backTo cpos (starEach es env)).any (·.1)) = false;rw [hplain];rfl
 refine wpAny_Raise_call_sub (C:=97) (N:=96) (nm:=nm) (q:=qn) (bs:=bs) (hdct:=hdct) (sn:=sn) (sub:=sub) (ab:=ab) (col:=col) (dd:=dd) (k0:=k0) (k1:=k1) (k2:=k2) (k3:=k3) (k5:=k5) PySem.F.excBase_ValueError (mN:=mN) r.handled hpl hni (bT hW R.gd R.fm hx ⟨rfl,?_⟩)
 have run:=ha.run A s vm O Nox cpos r t R (fun vs s'=>vs.length <= sizeLine /\ s'.heap.get? 97 = some (excClassObj nm qn 97 96 bs [.type "ValueError",.type "Exception",.type "BaseException",.type "object"] hdct sn sub ab col dd k0 k1 k2 k3 k5 "ValueError.__new__") /\ s'.heap.Ns 96 mN /\ ∀ h' e,Heap.MadeExcOf s'.heap h' e (.ref 97) vs->E (.ref e) { s' with heap:=h' }) E fun vs h' tk vm' O' le R' x dl=>?_
 ·rw [he] at run ⊢;exact Calls.evalArgs_plain (wpAny_mono run (fun vs s' z=>⟨rfl,z⟩) fun _ _ y=>y)
 ·refine ⟨by rw [dl.length,sizeLine_eq];omega,R'.gd.k 97 _ hC,hN _ R'.gd.k,fun h'' e me=>?_⟩
  exact q e h' h'' vs tk μ' vm' O' le R' x me
section
open Builtin Builtin.ObjectAttr
theorem wO (hW:Wok W T) {f:Addr} {fd:FuncData} {body:List Stmt} {oc:Value} {od:Option Addr} {osl:Array (Option Value)} {names:List Str} {args bd:List D} {fr:List Env} {C:Addr}
  (ho:W.K.lookup f = some ⟨oc,od,.func fd,osl⟩) (hbody:fd.body = .stmts body) (hcd:codeIn W.K fd.code fd.qualname = true) (hclo:fd.closure = []) (hgl:fd.globals = mainGlobals) (hbl:fd.builtins = builtinsNs)
  (hbind:BND W T fd args names bd) (hpar:names.all (ew fd.scope) = true) (hsc:br fd.scope = true)
  (hb:∀ L,EXR W T n (callEnvC fd L f) fr Θ.length (ix names bd) (Θ ++ [.gone]) (execs body (callEnvC fd L f)) C Θ') (hout:bI Θ' fr)
  (hco:autoParam (fd.scope.isCoroutine = false) rfT) (hgen:autoParam (fd.scope.isGenerator = false) rfT) (hk:autoParam (fd.scope.kind = .function) rfT):FMR W T (n + 1) fr (.ref f) args Θ C Θ':=by
 refine .of ?_;intro A s O vals r hfr tO R0 V P q;refine jU hW ho hbody hcd hclo hgl hbl hbind hpar hsc hco hgen hk r tO R0 V fun L h0a h1a tk1 vm leA stO st R1 hn hL F fresh VA=>?_
 obtain ⟨R,fin⟩:=qb (env:=callEnvC fd L f) R0 stO st R1 hn hL F fresh VA;have kn:Kn (A.deeper (callEnvC fd L f)) (callEnvC fd L f) fr Θ.length (O ++ [L]):=⟨Around.frames_deeper hfr,by rw [<- R0.len];simp;rfl⟩
 refine (hb L).run _ _ _ _ (r.deeper _) kn (Nat.le_trans tO leA) R _ _ fun e hh h' as tk μ' vm' O' le2 R' x me=>?_
 let hs:=((callEnvC fd L f) :: fr).filterMap (·.frame)
 have hf:(callEnvC fd L f).frame = some (callEnvC fd L f).locals:=rfl;have FF:=mM (B:=hideAll hh hs) R' hout hf fun a ⟨ev,h1,h2⟩=>hideAll_none hs (List.mem_filterMap.mpr ⟨ev,h1,h2⟩)
 refine wpAny_leaves_madeW (base:=hideAll hh hs) (h:=hh) (Around.frames_deeper hfr) hf (fun b o e=>of_hideAll hs e) FF me fun h'' tt fl _ _ us=>?_
 have us':hh.UpToSlots h'':=(Heap.UpToSlots.of_keeps me.keeps).trans us;refine q e (.ref tt) hh h'' (hideAll hh hs) tk O' (fun a=>L = a) (Nat.le_trans leA le2) R'.toRpH (fin x) (fun a ha=>?_) (fun a ob h1 h2 h3=>?_) (fun a ha=>?_) (fun a ob e=>of_hideAll hs e) fl us'
 ·subst ha;obtain ⟨ob,hob,es,ep,hd⟩:∃ ob,hh.get? L = some ob /\ ∃ es ep,ob.data = .dict es ep:=by
   obtain ⟨m,⟨o,es,ep,ho,hd,_⟩,_⟩:=R'.fm.loc;exact ⟨o,ho,es,ep,hd⟩
  exact ⟨Θ.length,ob,es,ep,x.ext.pre _ _ kn.own,x.later.gone _ (by simp),hob,hd⟩
 ·refine hideAll_get hs h3 fun m=>?_
  obtain ⟨ev,h4,h5⟩:=List.mem_filterMap.mp m;rcases List.mem_cons.mp h4 with rfl | h4
  ·rw [hf] at h5;cases h5;exact h1 rfl
  ·exact h2 ev h4 h5
 ·subst ha;exact eY stO hn
end
theorem vV (h:EVP W T n env μ e (.list ds)) (hl:ds.length <= 10000) (hne:ds.isEmpty = false) (he:autoParam (∀ whole,isTrue e env whole = (do let v <- whole;standAt e.pos;holding [v] (truthy v))) r1T):TST W T n env μ e true:=by
 refine .of ?_;intro A s vm O M r k F V Q E q;refine isTrue_plain (h.run A s vm O M r k F V _ E fun v h1a tA lA sI dA=>?_) (he _)
 induction dA using lE with
 | list pl hn dl=>
 rename_i vs;have hlen:=dl.length;refine wpAny_truthy_list (s:={ s with heap:=h1a,toks:=tA }) pl.isList (by rw [List.size_toArray,hlen];omega) ?_
 have e:(!vs.toArray.isEmpty) = true:=by
  cases vs with
  | nil=>cases ds with
   | nil=>cases hne
   | cons _ _=>simp at hlen
  | cons _ _=>rfl
 rw [e];exact q h1a _ (Nat.le_trans lA (Nat.le_trans (le_succ _) (le_succ _))) sI
theorem tH (h:EVP W T n env μ e d):EVP W T n env μ (.JoinedStr [e] pos) d:=.of fun A s vm O M r k F V Q E q=>JoinedStr_one (h.run A s vm O M r k F V Q E q)
theorem rf (hK:W.K = hd.heap_39 P) (h:env.kindOf "CycleError" = some .globalImplicit):Glb W env "CycleError" (.ref 97):=.top h (by rw [hK];with_unfolding_all rfl)
theorem pR (tx:Nat->Str) (r:Option (List Nat)):(ir tx r).nr = true:=by
 cases r with
 | none=>rfl
 | some l=>
  show D.nr (.list _) = true;rw [D.nr]
  induction l with
  | nil=>rfl
  | cons a l ih=>rw [map_cons,D.nrL,ih];rfl
theorem vP (hW:Wok W T) (hK:W.K = hd.heap_39 P) (hT:cY tx N) (pre:List ac) (is:List ao) (p f:Int) (post:List ac) (ok:a9 N is) (hN:N <= 900)
  (hsu:∀ i ∈ is,∀ y ∈ i.succ,(ixI is y).isSome = true) (hout:bI (sT tx pre is .none p f post) fr) {m:Nat} {ring:List Nat} (hres:dR (gc is) m (is.map (·.id)) ⟨[],[]⟩ = some (some ring)) (hrl:ring.length <= 1000) (hr0:ring ≠ [])
  (hp:(pre.all fun o=>o.lo (pre.length + 3 + 3 * is.length + post.length)) = true) (ho:(post.all fun o=>o.lo (pre.length + 3 + 3 * is.length + post.length)) = true) :
  FMR W T 6 fr (.ref 134) [.ref (pre.length + 1)] (sT tx pre is .none p f post) 97 (sT tx pre is (rk pre is (post.length + 1)) p f (post ++ [.gone,.mlist ((aB is).map fun j=>.str (tx j))])):=by
 have hil:is.length <= 900:=by
  have:=dU ok.nd (fun x hx=>by obtain ⟨i,hi,rfl⟩:=List.mem_map.mp hx;exact ok.lt i hi)
  simp at this;omega
 refine wO hW (by rw [hK];with_unfolding_all rfl) rfl (by rw [hK];with_unfolding_all rfl) rfl rfl rfl (names:=[Str.ofString "self"]) (df (vs1 fun _=>rfl)) (by decide +kernel) (by decide +kernel) (fun L=>?_) ?hO
 case hO=>
  have h1:bI (sT tx pre is (rk pre is (post.length + 1)) p f post) fr:=by
   have:=hout.put (o':=.mns (fw (pre.length + 2) (rk pre is (post.length + 1)) p f)) b9 (fun e m q=>by cases q)
   rw [fQ] at this;exact this
  have h3:∀ G,sT tx pre is (rk pre is (post.length + 1)) p f post ++ G = sT tx pre is (rk pre is (post.length + 1)) p f (post ++ G):=fun G=>by unfold sT;simp [append_assoc]
  rw [<- h3];exact h1.app
 rw [gR];refine j3 (d8 (b:=false) (cI (dj hW (bh hK) (ai (aa rfl rfl)) co b9 rfl (dY hK)) (ai cH) el) (fun z=>nomatch z) (fun _=>ar.a)) ?_
 have eR:sT tx pre is .none p f (post ++ [.gone]) ++ [.mlist (cw (sT tx pre is .none p f (post ++ [.gone])) (aC tx (pre.length + 3) is))] = sT tx pre is .none p f (post ++ [.gone,.mlist ((aB is).map fun j=>.str (tx j))]):=by
  rw [gR,oK,append_assoc];rfl
 have eD:D.ref (sT tx pre is .none p f (post ++ [.gone])).length = rk pre is (post.length + 1):=by
  unfold rk;rw [dF,length_append];rfl
 have hall:∀ kv ∈ aC tx (pre.length + 3) is,∃ a k s np sc m,kv.2 = .ref a /\ (sT tx pre is .none p f (post ++ [.gone]))[a]? = some (.minst 82 k [some (.str s),some (.int np),sc]) /\ (sT tx pre is .none p f (post ++ [.gone]))[k]? = some (.mns m):=by
  have h:∀ (js:List ao) (c:Nat),(∀ j i,js[j]? = some i->is[c + j]? = some i)->∀ kv ∈ aC tx (pre.length + 3 + 3 * c) js,∃ a k s np sc m,kv.2 = .ref a /\ (sT tx pre is .none p f (post ++ [.gone]))[a]? = some (.minst 82 k [some (.str s),some (.int np),sc]) /\ (sT tx pre is .none p f (post ++ [.gone]))[k]? = some (.mns m):=by
   intro js
   induction js with
   | nil=>intro c _ kv hkv;cases hkv
   | cons i js ih=>
    intro c hc kv hkv;rw [aC] at hkv;have h0:=hc 0 i rfl;rcases List.mem_cons.mp hkv with rfl | hkv
    ·exact ⟨_,_,_,_,_,_,rfl,bJ 1 h0 (by decide),bJ 0 h0 (by decide)⟩
    ·exact ih (c + 1) (fun j i' e=>by have:=hc (j + 1) i' (by simpa using e);rw [show c + 1 + j = c + (j + 1) by omega];exact this) kv (by rw [show pre.length + 3 + 3 * (c + 1) = pre.length + 3 + 3 * c + 3 by omega];exact hkv)
  exact h is 0 fun j i e=>by rw [Nat.zero_add];exact e
 refine j3 (EX.a (EX.nxtT (dN hW (bh hK) (((k6 hW (dq hK) (pT hK) (iI hK) (fc hW hK (ai (aa rfl rfl))) gH (by rw [iw];omega) hall).eqT eR).eqd eD) (ai (aa rfl rfl)) co b9 (ry hK) (le_of_ble_eq_true rfl)) (fQ (ready':=rk pre is (post.length + 1)) (p':=p) (f':=f)))) ?_
 have L1:(sT tx pre is .none p f post).length = pre.length + 3 + 3 * is.length + post.length:=dF;rw [L1];have hset:∀ vm,(sT tx pre is (rk pre is (post.length + 1)) p f (post ++ [.gone,.mlist ((aB is).map fun j=>.str (tx j))])).set (pre.length + 3 + 3 * is.length + post.length) vm = sT tx pre is (rk pre is (post.length + 1)) p f (post ++ [vm,.mlist ((aB is).map fun j=>.str (tx j))]):=fun vm=>by
  rw [dC,set_append_right _ _ (Nat.le_refl _),sub_self];rfl
 have hgone:(sT tx pre is (rk pre is (post.length + 1)) p f (post ++ [.gone,.mlist ((aB is).map fun j=>.str (tx j))]))[pre.length + 3 + 3 * is.length + post.length]? = some .gone:=by
  rw [cF,getElem?_append_right (Nat.le_refl _),sub_self];rfl
 refine j3 (jo hW (gg (d:=ir tx (some ring)) (Θ':=sT tx pre is (rk pre is (post.length + 1)) p f (post ++ [.gone,.mlist ((aB is).map fun j=>.str (tx j))])) hW (bh hK) (vi hK) (ai (aa rfl rfl)) co b9 rfl hgone hgone (pR tx (some ring)) (fun vm=>?_)) rfl) ?_
 ·rw [hset];refine qC hW hK hT pre is _ p f _ ok hN hsu ?_ hres ?_ ?_ ?_
  ·intro e he;rcases List.mem_cons.mp he with rfl | he
   ·exact ⟨_,vm,by rw [cF post.length,getElem?_append_right (Nat.le_refl _),sub_self];rfl⟩
   ·have h1:bI (sT tx pre is (rk pre is (post.length + 1)) p f post) fr:=by
     have:=hout.put (o':=.mns (fw (pre.length + 2) (rk pre is (post.length + 1)) p f)) b9 (fun e m q=>by cases q)
     rw [fQ] at this;exact this
    have h3:∀ G,sT tx pre is (rk pre is (post.length + 1)) p f post ++ G = sT tx pre is (rk pre is (post.length + 1)) p f (post ++ G):=fun G=>by unfold sT;simp [append_assoc]
    rw [<- h3];exact h1.app e he
  ·exact cS (by rw [length_append];omega) hp
  ·exact decide_eq_true (by rw [length_append];simp only [length_cons,length_nil];omega)
  ·rw [all_append,cS (by rw [length_append];omega) ho]
   have hstr:∀ k,D.loL k ((aB is).map fun j=>.str (tx j)) = true:=fun k=>by
    have:=i7 tx (some (aB is)) k;simp only [ir,D.lo] at this;exact this
   simp only [all_cons,all_nil,ac.lo,Bool.true_and,Bool.and_true];exact hstr _
 ·refine qJ (yL (fz (be.refl _ _) (vV (ds:=ring.map fun j=>.str (tx j)) (aa rfl rfl) ?_ ?_)) (qJ (uN hW hK (rf hK rfl) (dg (ai (tH bl)) (dg (ai (aa rfl rfl)) eV)) (by simp))))
  ·rw [length_map];omega
  ·cases ring with
   | nil=>exact absurd rfl hr0
   | cons a l=>rfl
section
open Builtin Builtin.ObjectAttr
theorem qQ (hK:W.K = hd.heap_39 P) {A:Around} {E:Value->Shared->Prop} {s:Shared} {e:Addr} {t:Expr} {bO:Stmt} {suite:List Stmt} {pos:Pos} {rest:List ExceptHandler} {Q:Flow->Shared->Prop}
  (h:wpAny (model W.prog W.w) (A.mark (some (.ref e))) (eval t env) (fun c sI=>c = .ref 97 /\ W.K.In sI.heap /\ (∃ oe,sI.heap.get? e = some oe /\ oe.cls = .ref 97) /\
   wpAny (model W.prog W.w) (A.mark (some (.ref e))) (setFlight (.ref e) none) (fun _ sB=>wpAny (model W.prog W.w) (A.mark (some (.ref e))) (execs (bO :: suite) env) Q (notedBy (model W.prog W.w) (A.mark (some (.ref e))) env (cameBackBy (model W.prog W.w) A env E)) sB) (notedBy (model W.prog W.w) (A.mark (some (.ref e))) env (cameBackBy (model W.prog W.w) A env E)) sI) (notedBy (model W.prog W.w) (A.mark (some (.ref e))) env (cameBackBy (model W.prog W.w) A env E)) s) :
  wpAny (model W.prog W.w) A (handleBy (.ref e) env (.ExceptHandler (some t) none (bO :: suite) pos :: rest)) Q E s:=by
 refine wpAny_handleBy_cons (codeAny_handlers_test (wpAny_mono h (fun c sI h1a=>?_) fun _ _ y=>y)) (by intro q;cases q)
 obtain ⟨rfl,hk',⟨oe,he,hcls⟩,hk⟩:=h1a;obtain ⟨nm,qn,bs,hdct,sn,sub,ab,col,dd,k0,k1,k2,k3,k5,hC⟩:=rz hK;have hC':=hk' 97 _ hC;obtain ⟨hh,g,d,tk,os⟩:=sI;exact wpAny_excMatches_sub_self hC' he hcls (by decide) (codeAny_handlers_suite hk)
theorem qZ (hW:Wok W T) (hK:W.K = hd.heap_39 P) {b bb:Bool} {x y:Str} {name:Str} {px py apos cpos epos pn ph pc pa pos:Pos} {kc:Nat} {i j:Nat} {C f:Addr} {ss:List (Option D)} {m:List (Str × D)} (F:cT W.K C b) (G:io W.K C name f)
  (ho:EVM W T n env μ Θ (eval (.Name x px) env) (.ref i) μ Θ) (hi:Θ[i]? = some (.minst C j ss)) (hj:Θ[j]? = some (.mns m)) (hm:m.lookup name = none) (hg:Θ[j0]? = some .gone) (hg':Θ'[j0]? = some .gone) (hout:bI Θ' out) (hx:Glb W env "CycleError" (.ref 97)) (hk:Sto env y = true)
  (hf:∀ vm,FMR W T n (env :: out) (.ref f) [.ref i] (Θ.set j0 (.mframe env vm)) 97 (Θ'.set j0 (.mframe env vm))) (hfr:autoParam (env.frame = some env.locals) rfT) (hline:autoParam ((apos.endLine == cpos.line) = true) rfT) (hin:autoParam (interactive env = false) rfT)
  (hs:autoParam (swapsWith (.Constant (.bool bb) kc pc) (some (.Name y py)) pa.line env = pure false) rfT) (hsw:autoParam (swapsWith (.Call (.Attribute (.Name x px) name apos) [] [] cpos) none epos.line env = pure false) rfT) :
  EXA W T n env out j0 μ Θ (exec (.Try [.Expr (.Call (.Attribute (.Name x px) name apos) [] [] cpos) epos] [.ExceptHandler (some (.Name "CycleError" pn)) none [.Assign [.Name y py] (.Constant (.bool bb) kc pc) pa] ph] [] [] pos) env) (.nxt (upd μ y (.bool bb)) Θ'):=by
 refine .of ?_;intro A s vm O r kn t R Q E q;refine wpAny_Try_except (wpAny_execs_cons (wpAny_Expr (iS rfl rfl hline (ho.run A s vm O Nox r t R _ _ fun v h1a tA vm1 O1 lA R1 xA dA=>?_)) hin hsw))
 induction dA using rE with
 | ref hai=>
 rename_i a;refine cD R1.toRpH hai hi hj fun dx vs od vk e1 ej e2 I hn hv hl dl=>?_
 have z:=hv name;rw [hm] at z;refine method_fn (s:={ s with heap:=h1a,toks:=tA }) R1.gd.k I F.ga F.gk G.find G.typ (gm hl (cP z)) ?_
 refine callWith_K0 R1.gd.k G.keep ?_
 have kn1:=kn.ext xA.ext;obtain ⟨m',hm',Ro,mx,lv⟩:=R1.own kn1.own hg hfr;refine wpAny_call ((hf m').code A { s with heap:=h1a,toks:=tA } O1 [.ref a] r kn1.frames (Nat.le_trans t lA) Ro (.cons (.ref hai) .nil) _ fun e a0 h0a h' base tC O3 hid l3 R3 xC hhid hb1 hb2 hb3 fl us=>?_)
 obtain ⟨R4,xD⟩:=R1.back kn1.own hg hg' hm' mx lv Ro R3 xC;have hhid':∀ a,hid a->∃ (j:Nat) (ob:Obj) (es:Array DictEntry) (ep:Nat),O3[j]? = some a /\ Θ'[j]? = some .gone /\ h0a.get? a = some ob /\ ob.data = .dict es ep:=fun a ha=>by
  obtain ⟨k,ob,es,ep,g1,g2,g3,g4⟩:=hhid a ha;refine ⟨k,ob,es,ep,g1,?_,g3,g4⟩
  by_cases hk:j0 = k
  ·subst hk;rw [hg']
  ·rw [getElem?_set_ne hk] at g2;exact g2
 have kB:∀ {g:Heap},base.StaysIn g->∀ a ob,¬ hid a->¬ Fra env out a->h0a.get? a = some ob->g.get? a = some ob:=fun st a ob h1 h2 h3=>st a ob (hb1 a ob h1 (fun ev hev q=>h2 ⟨ev,hev,q⟩) h3)
 refine wpAny_looks_onW (s:={ s with heap:=h',toks:=tC }) kn.frames hfr fl fun h5a held us5=>?_
 refine wpAny_landsW (s:={ s with heap:=h5a,toks:=tC }) held fun h6a fl6 us6=>?_
 have up6:=(us.trans us5).trans us6;obtain ⟨oe6,he6,hcF⟩:=fl6.there;obtain ⟨R6,_⟩:=R4.slots0 hW hout hfr hid hhid' (kB fl6.1) up6;refine qQ hK (bT (s:={ s with heap:=h6a,toks:=tC }) hW R6.gd R6.fm hx ⟨rfl,R6.gd.k,⟨oe6,he6,hcF⟩,?_⟩)
 refine lands_againW (s:={ s with heap:=h6a,toks:=tC }) fl6 fun h7a fl7 us7=>?_
 have up7:=up6.trans us7;obtain ⟨R7,gr7⟩:=R4.slots0 hW hout hfr hid hhid' (kB fl7.1) up7;have nx:Nx W (Fx env) h1a O1 Θ h7a O3 Θ':=by
  refine ⟨fun a ob ht zz ea=>?_,xD.ext,fun a ea=>gr7 a (xD.grow a ea),xD.later⟩
  refine kB fl7.1 a ob (fun hh=>?_) (fun ff=>?_) (xD.kp a ob ht zz ea)
  ·have:h1a.get? a = none:=hb2 a hh;rw [this] at ea;cases ea
  ·rcases gt R4 hout hfr ff with rfl | ⟨k,ev,mm,g1,g2⟩
   ·exact zz (.inl (.inl rfl))
   ·rcases xD.ext.new k a g1 with g3 | g3
    ·refine zz (.inr ⟨k,?_⟩)
     cases g4:Θ[k]? with
     | none=>
      have:=(List.getElem?_eq_some_iff.mp g3).1;rw [List.getElem?_eq_none_iff] at g4;rw [R1.len] at this;exact absurd this (Nat.not_lt.mpr g4)
     | some o4=>
      refine ⟨o4,g3,rfl,fun qq=>?_⟩
      rw [qq] at g4;rw [xD.later.gone k g4] at g2;cases g2
    ·rw [g3] at ea;cases ea
 refine wpAny_execs_cons (wpAny_Assign_Name (fun _ _ _=>?_) hs)
 show wpAny _ _ _ _ _ { s with heap:=h7a,toks:=tC }
 refine bV R7.fm hk fun b hH t8 l8 fs sb F'=>?_
 have fb:Fx env b:=fs.elim (fun q=>.inl q.2) fun q=>.inr ⟨y,q.2⟩
 obtain ⟨R8,x8⟩:=R7.stored hW fb sb F' (.bool bb);exact wpAny_execs_nil (q _ hH t8 (Nat.le_trans lA (Nat.le_trans l3 l8)) ⟨rfl,_,O3,R8,(xA.trans nx R.len).trans x8 R.len⟩)
end
section
open Builtin Builtin.ObjectAttr
theorem qY {body:List Stmt} {h0a:ExceptHandler} {hs:List ExceptHandler} {pos:Pos} (hb:EXA W T n env out j0 μ Θ (execs body env) (.nxt μ' Θ')):EXA W T n env out j0 μ Θ (exec (.Try body (h0a :: hs) [] [] pos) env) (.nxt μ' Θ'):=by
 refine .of ?_;intro A s vm O r kn t R Q E q;refine wpAny_Try_except (hb.run A s vm O r kn t R _ _ fun f h' tk le p=>?_)
 have q':=q f h' tk le p;obtain ⟨rfl,_⟩:=p;exact wpAny_execs_nil q'
end
section
open Builtin Builtin.ObjectAttr
theorem qj {M:Model} {A:Around} {E:Value->Shared->Prop} {s:Shared} {Q:Value->Shared->Prop} {ob:Expr} {name:Str} {apos pos:Pos} {args:List Expr} (hb:attributeBase ob name env (eval ob env) = eval ob env) (hform:methodCallForm (args.length + ([]:List Keyword).length) (backTo pos (starEach args env)) [] = false)
  (h:wpAny M A (eval ob env) (fun ov sI=>wpAny M A (getAttr ov name true) (fun f sB=>wpAny M A (callWith pos f [] (backTo pos (starEach args env)) []) Q E sB) E sI) E s):wpAny M A (eval (.Call (.Attribute ob name apos) args [] pos) env) Q E s:=by
 rw [arm_eval_Call,hb];refine wpAny_bind (wpAny_mono h (fun ov sI h1a=>wpAny_bind (wpAny_standAt ?_)) fun _ _ x=>x)
 unfold methodCall;have e0:backToKw pos (keywordEach [] env) = []:=rfl;rw [e0,hform];refine wpAny_bind (wpAny_holding ?_)
 unfold calleeOf;simp only [Bool.false_eq_true,if_false];refine wpAny_bind (wpAny_mono h1a (fun f sB hJ=>wpAny_pure ?_) fun _ _ x=>x)
 unfold methodCallPos;simp only [Bool.not_false,Bool.true_or,if_true];exact wpAny_bind (wpAny_pure hJ)
theorem pI (hW:Wok W T) {A:Around} {E:Value->Shared->Prop} {s:Shared} {Q:Value->Shared->Prop} {Θ:List ac} {M0:Addr->Prop} {O:List Addr} {b:Bool} {name:Str} {i j:Nat} {a C f:Addr} {ss:List (Option D)} {m:List (Str × D)} (F:cT W.K C b) (hfind:∀ od,lookIn name od = some none->findObj W.K C (some od) name = some (.bind (.builtin "function.__get__") (.ref f))) (htyp:typeIn W.K (.ref f) = some (.type "function"))
  (R:RpH W T M0 Θ s.heap O) (ha:O[i]? = some a) (hi:Θ[i]? = some (.minst C j ss)) (hj:Θ[j]? = some (.mns m)) (hm:m.lookup name = none)
  (h:Q (.ref s.heap.objs.size) { s with heap:=s.heap.push (methodObj (.ref f) (.ref a)),toks:=s.toks + 1 }):wpAny (model W.prog W.w) A (getAttr (.ref a) name true) Q E s:=by
 refine cD R ha hi hj fun dx vs od vk e1 ej e2 I hn hv hl dl=>?_
 have z:=hv name;rw [hm] at z;exact get_bind R.gd.k I F.ga (hfind od (by rw [hl,cP z])) F.gk (wpAny_call (fn_get (s:={ s with toks:=s.toks + 1 }) R.gd.k htyp (handed_on rfl h)))
end
section
open Builtin Builtin.ObjectAttr
theorem tW {l:Addr} {vs:List Value} {Q:List Value->Shared->Prop} (hl:s.heap.IsList l vs.toArray) (hsz:vs.length <= 100000)
  (h:∀ h',(∀ a o,s.heap.get? a = some o->h'.get? a = some o)->Q vs { s with heap:=h' }):StarOf (model prog w) A E (.ref l) Q s:=by
 obtain ⟨o,ho,hc,n,hd⟩:=id hl;unfold StarOf notIterableAtAll;refine wpAny_bind (wpAny_specialOf hl.typeIs slot_list_iter.lookup ?_)
 exact wpAny_pure ⟨rfl,wpAny_collect_seq l (.inl rfl) ho hc hd (fun h' k=>h h' k) (by rw [sizeLine_eq];simp;omega)⟩
theorem wn {l:Addr} {vs:List Value} {Q:List Value->Shared->Prop} (hl:s.heap.IsTuple l vs.toArray) (hsz:vs.length <= 100000)
  (h:∀ h',(∀ a o,s.heap.get? a = some o->h'.get? a = some o)->Q vs { s with heap:=h' }):StarOf (model prog w) A E (.ref l) Q s:=by
 obtain ⟨o,ho,hc,n,hd⟩:=id hl;unfold StarOf notIterableAtAll;refine wpAny_bind (wpAny_specialOf hl.typeIs F.slot_tuple_iter.lookup ?_)
 exact wpAny_pure ⟨rfl,wpAny_collect_seq l (.inr rfl) ho hc hd (fun h' k=>h h' k) (by rw [sizeLine_eq];simp;omega)⟩
end
section
open Builtin Builtin.ObjectAttr
theorem q6 (hW:Wok W T) {b:Bool} {ob e xs:Expr} {name:Str} {p apos pos:Pos} {d d':D} {ds:List D} {i j:Nat} {C f:Addr} {ss:List (Option D)} {m:List (Str × D)} (F:cT W.K C b) (hfind:∀ od,lookIn name od = some none->findObj W.K C (some od) name = some (.bind (.builtin "function.__get__") (.ref f))) (htyp:typeIn W.K (.ref f) = some (.type "function")) (hfn:fnIn W.K f = true)
  (ho:EVM W T n env μ Θ (eval ob env) (.ref i) μ Θ) (he:EVP W T n env μ e d) (hxs:EVP W T n env μ xs (.list ds)) (hl:ds.length <= 1000) (hi:Θ[i]? = some (.minst C j ss)) (hj:Θ[j]? = some (.mns m)) (hm:m.lookup name = none) (hf:FM W T n (.ref f) (.ref i :: d :: ds) Θ d' Θ')
  (hb:autoParam (attributeBase ob name env (eval ob env) = eval ob env) rfT) (hes:autoParam (starEach [e,.Starred xs p] env = (false,eval e env) :: starEach [.Starred xs p] env) rfT) (hes':autoParam (starEach [.Starred xs p] env = (true,eval xs env) :: starEach [] env) rfT) :
  EVM W T n env μ Θ (eval (.Call (.Attribute ob name apos) [e,.Starred xs p] [] pos) env) d' μ Θ':=by
 refine .of ?_;intro A s vm O M0 r t R Q E q;refine qj hb (by rw [hes,hes'];rfl) (ho.run A s vm O M0 r t R _ _ fun v h1a tA vm1 O1 lA R1 xA dA=>?_)
 induction dA using rE with
 | ref ha=>
 rename_i a;refine pI (s:={ s with heap:=h1a,toks:=tA }) hW F hfind htyp R1.toRpH ha hi hj hm ?_
 have stB:Stp W T h1a (h1a.push (methodObj (.ref f) (.ref a))):=.of hW R1.gd fun a o e=>Heap.get?_push_of_some _ e
 have hqB:(h1a.push (methodObj (.ref f) (.ref a))).get? h1a.objs.size = some (methodObj (.ref f) (.ref a)):=Heap.get?_push_size _ rfl;generalize (h1a.push (methodObj (.ref f) (.ref a))) = hJ at stB hqB;have R2:=R1.step stB;have tt:0 <= tA + 1:=zero_le _;have run:wpAny (model W.prog W.w) A (spliced (backTo pos (starEach [e,.Starred xs p] env))) (fun vs sI=>MethP W.K h1a.objs.size f (.ref a) sI.heap /\ wpAny (model W.prog W.w) A (call (.ref h1a.objs.size) ([] ++ vs)) Q E sI) E { s with heap:=hJ,toks:=tA + 1 }:=by
  refine spliced_more (he.run A { s with heap:=hJ,toks:=tA + 1 } vm1 O1 _ r (R2.toRpH.ok tt) R2.fm R2.vars _ _ fun v3 h3a tC l3 st3 dv3=>?_) hes
  have R3:=R2.step st3;refine items_star (hxs.run A { s with heap:=h3a,toks:=tC } vm1 O1 _ r (R3.toRpH.ok (Nat.le_trans tt l3)) R3.fm R3.vars _ _ fun v4 h4a tD lD st4 dv4=>?_) hes'
  have R4:=R3.step st4
  induction dv4 using lE with
  | list pl hn dl=>
  rename_i l vs;have hlen:=dl.length;refine tW (s:={ s with heap:=h4a,toks:=tD }) pl.isList (by omega) fun h5a kM=>spliced_none ?_
  have st5:Stp W T h4a h5a:=.of hW R4.gd kM;have R5:=R4.step st5;have hqt:h1a.objs.size ≠ W.tab:=fun qq=>by
   obtain ⟨ws,e⟩:=R1.gd.tab;rw [<- qq,az] at e;cases e
  have hq5:=kM _ _ (st4.kp _ _ hqt (st3.kp _ _ hqt hqB));refine ⟨⟨hq5,R5.gd.k⟩,wpAny_call (method_call (s:={ s with heap:=h5a,toks:=tD }) hq5 ?_)⟩
  have dvs:am h5a O1 (Mx M0 O1 Θ) (.ref a :: v3 :: (vs ++ [])) (.ref i :: d :: ds):=by
   rw [append_nil];exact .cons (.ref ha) (.cons ((dv3.st R3.gd st4.kp).st R4.gd st5.kp) (dl.st R4.gd st5.kp))
  refine hf.code A { s with heap:=h5a,toks:=tD } O1 M0 _ r (Nat.le_trans (Nat.le_trans tt l3) lD) R5.toRpH dvs _ fun v6 h6a t6 O6 lF R6 x6 d6=>?_
  exact q v6 h6a t6 vm1 O6 (Nat.le_trans lA (Nat.le_trans (le_succ _) (Nat.le_trans l3 (Nat.le_trans lD lF)))) (R5.called R6 x6) (xA.trans (((Nx.of stB).trans (Nx.of st3) R1.len).trans (((Nx.of st4).trans (Nx.of st5) R1.len).trans x6.wide R1.len) R1.len) R.len) d6
 rw [hes] at run ⊢;exact ks_call (by rw [hes'];rfl) (keeps_M hfn) (Calls.evalArgs_plain run)
end
section
open Builtin Builtin.ObjectAttr
theorem q0 (hW:Wok W T) {b:Bool} {ob xs:Expr} {name:Str} {p apos pos:Pos} {d':D} {ds:List D} {i j:Nat} {C f:Addr} {ss:List (Option D)} {m:List (Str × D)} (F:cT W.K C b) (hfind:∀ od,lookIn name od = some none->findObj W.K C (some od) name = some (.bind (.builtin "function.__get__") (.ref f))) (htyp:typeIn W.K (.ref f) = some (.type "function")) (hfn:fnIn W.K f = true)
  (ho:EVM W T n env μ Θ (eval ob env) (.ref i) μ Θ) (hxs:EVP W T n env μ xs (.tup ds)) (hl:ds.length <= 1000) (hi:Θ[i]? = some (.minst C j ss)) (hj:Θ[j]? = some (.mns m)) (hm:m.lookup name = none) (hf:FM W T n (.ref f) (.ref i :: ds) Θ d' Θ')
  (hb:autoParam (attributeBase ob name env (eval ob env) = eval ob env) rfT) (hes':autoParam (starEach [.Starred xs p] env = [(true,eval xs env)]) rfT) :
  EVM W T n env μ Θ (eval (.Call (.Attribute ob name apos) [.Starred xs p] [] pos) env) d' μ Θ':=by
 refine .of ?_;intro A s vm O M0 r t R Q E q;refine qj hb (by rw [hes'];rfl) (ho.run A s vm O M0 r t R _ _ fun v h1a tA vm1 O1 lA R1 xA dA=>?_)
 induction dA using rE with
 | ref ha=>
 rename_i a;refine pI (s:={ s with heap:=h1a,toks:=tA }) hW F hfind htyp R1.toRpH ha hi hj hm ?_
 have stB:Stp W T h1a (h1a.push (methodObj (.ref f) (.ref a))):=.of hW R1.gd fun a o e=>Heap.get?_push_of_some _ e
 have hqB:(h1a.push (methodObj (.ref f) (.ref a))).get? h1a.objs.size = some (methodObj (.ref f) (.ref a)):=Heap.get?_push_size _ rfl;generalize (h1a.push (methodObj (.ref f) (.ref a))) = hJ at stB hqB;have R2:=R1.step stB;have tt:0 <= tA + 1:=zero_le _;rw [hes'];refine ks_call rfl (keeps_M (self:=.ref a) hfn) (ks_lone (hxs.run A { s with heap:=hJ,toks:=tA + 1 } vm1 O1 _ r (R2.toRpH.ok tt) R2.fm R2.vars _ _ fun v4 h4a tD lD st4 dv4=>?_))
 have R4:=R2.step st4
 induction dv4 using tE with
 | tup pl hn dl=>
 rename_i l vs;have hlen:=dl.length;refine wn (s:={ s with heap:=h4a,toks:=tD }) pl.isTuple (by omega) fun h5a kM=>?_
 have st5:Stp W T h4a h5a:=.of hW R4.gd kM;have R5:=R4.step st5;have hqt:h1a.objs.size ≠ W.tab:=fun qq=>by
  obtain ⟨ws,e⟩:=R1.gd.tab;rw [<- qq,az] at e;cases e
 have hq5:=kM _ _ (st4.kp _ _ hqt hqB);refine ⟨⟨hq5,R5.gd.k⟩,wpAny_call (method_call (s:={ s with heap:=h5a,toks:=tD }) hq5 ?_)⟩
 have dvs:am h5a O1 (Mx M0 O1 Θ) (.ref a :: vs) (.ref i :: ds):=.cons (.ref ha) (dl.st R4.gd st5.kp);refine hf.code A { s with heap:=h5a,toks:=tD } O1 M0 _ r (Nat.le_trans tt lD) R5.toRpH dvs _ fun v6 h6a t6 O6 lF R6 x6 d6=>?_
 exact q v6 h6a t6 vm1 O6 (Nat.le_trans lA (Nat.le_trans (le_succ _) (Nat.le_trans lD lF))) (R5.called R6 x6) (xA.trans ((Nx.of stB).trans (((Nx.of st4).trans (Nx.of st5) R1.len).trans x6.wide R1.len) R1.len) R.len) d6
end
theorem zi (hK:W.K = hd.heap_39 P) (od:Obj) (h:lookIn "add" od = some none):findObj W.K 179 (some od) "add" = some (.bind (.builtin "function.__get__") (.ref 129)):=
 findObj_fn (by rw [hK];with_unfolding_all rfl) (by rw [hK];with_unfolding_all rfl) (by rw [hK];with_unfolding_all rfl) (by rw [hK];with_unfolding_all rfl) (by decide +kernel) h
theorem yp (hK:W.K = hd.heap_39 P) (od:Obj) (h:lookIn "done" od = some none):findObj W.K 179 (some od) "done" = some (.bind (.builtin "function.__get__") (.ref 162)):=
 findObj_fn (by rw [hK];with_unfolding_all rfl) (by rw [hK];with_unfolding_all rfl) (by rw [hK];with_unfolding_all rfl) (by rw [hK];with_unfolding_all rfl) (by decide +kernel) h
theorem zl (hK:W.K = hd.heap_39 P):typeIn W.K (.ref 129) = some (.type "function"):=by rw [hK];with_unfolding_all rfl
theorem yH (hK:W.K = hd.heap_39 P):typeIn W.K (.ref 162) = some (.type "function"):=by rw [hK];with_unfolding_all rfl
theorem zj (hK:W.K = hd.heap_39 P):fnIn W.K 129 = true:=by rw [hK];with_unfolding_all rfl
theorem yU (hK:W.K = hd.heap_39 P):fnIn W.K 162 = true:=by rw [hK];with_unfolding_all rfl
noncomputable def t3 (led:Bool) (ms:List (Nat × Tok)):SetTable:={ mask:=7,place:=(ms.map (·.1)).toArray,dummies:=#[],finger:=0,led:=led,moves:=0,plain:=true }
noncomputable def e3 (ms:List (Nat × Tok)):Array (Int × Value):=(ms.map fun p=>((p.1:Int),Value.int (p.1:Int) p.2)).toArray
noncomputable def dD (k:Nat) (u:Tok):List (Nat × Tok)->List (Nat × Tok)
 | []=>[(k,u)]
 | p :: r=>if k < p.1 then (k,u) :: p :: r else p :: dD k u r
inductive In3:List (Nat × Tok)->Prop
 | s0:In3 []
 | s1 (u0:Tok):In3 [(0,u0)]
 | s2 (u1:Tok):In3 [(1,u1)]
 | s3 (u2:Tok):In3 [(2,u2)]
 | s4 (u0 u1:Tok):In3 [(0,u0),(1,u1)]
 | s5 (u0 u2:Tok):In3 [(0,u0),(2,u2)]
 | s6 (u1 u2:Tok):In3 [(1,u1),(2,u2)]
 | s7 (u0 u1 u2:Tok):In3 [(0,u0),(1,u1),(2,u2)]
structure fY (led:Bool) (ms:List (Nat × Tok)) (k:Nat) (u:Tok):Prop where
 lay:layNew (t3 led ms) (e3 ms) (k:Int) (.int (k:Int) u) = (e3 (dD k u ms),t3 led (dD k u ms),false,false)
 full:(t3 led (dD k u ms)).tooFull = false
 ins:In3 (dD k u ms)
theorem yG (led:Bool) (u:Tok):fY led [] 0 u:=⟨by cases led <;> kernel_rfl,by cases led <;> kernel_rfl,.s1 u⟩
theorem yI (led:Bool) (u:Tok):fY led [] 1 u:=⟨by cases led <;> kernel_rfl,by cases led <;> kernel_rfl,.s2 u⟩
theorem y4 (led:Bool) (u:Tok):fY led [] 2 u:=⟨by cases led <;> kernel_rfl,by cases led <;> kernel_rfl,.s3 u⟩
theorem yc (led:Bool) (u0:Tok) (u:Tok):fY led [(0,u0)] 1 u:=⟨by cases led <;> kernel_rfl,by cases led <;> kernel_rfl,.s4 u0 u⟩
theorem xi (led:Bool) (u0:Tok) (u:Tok):fY led [(0,u0)] 2 u:=⟨by cases led <;> kernel_rfl,by cases led <;> kernel_rfl,.s5 u0 u⟩
theorem wR (led:Bool) (u1:Tok) (u:Tok):fY led [(1,u1)] 0 u:=⟨by cases led <;> kernel_rfl,by cases led <;> kernel_rfl,.s4 u u1⟩
theorem w5 (led:Bool) (u1:Tok) (u:Tok):fY led [(1,u1)] 2 u:=⟨by cases led <;> kernel_rfl,by cases led <;> kernel_rfl,.s6 u1 u⟩
theorem xP (led:Bool) (u2:Tok) (u:Tok):fY led [(2,u2)] 0 u:=⟨by cases led <;> kernel_rfl,by cases led <;> kernel_rfl,.s5 u u2⟩
theorem xn (led:Bool) (u2:Tok) (u:Tok):fY led [(2,u2)] 1 u:=⟨by cases led <;> kernel_rfl,by cases led <;> kernel_rfl,.s6 u u2⟩
theorem vN (led:Bool) (u0 u1:Tok) (u:Tok):fY led [(0,u0),(1,u1)] 2 u:=⟨by cases led <;> kernel_rfl,by cases led <;> kernel_rfl,.s7 u0 u1 u⟩
theorem vf (led:Bool) (u0 u2:Tok) (u:Tok):fY led [(0,u0),(2,u2)] 1 u:=⟨by cases led <;> kernel_rfl,by cases led <;> kernel_rfl,.s7 u0 u u2⟩
theorem vz (led:Bool) (u1 u2:Tok) (u:Tok):fY led [(1,u1),(2,u2)] 0 u:=⟨by cases led <;> kernel_rfl,by cases led <;> kernel_rfl,.s7 u u1 u2⟩
variable {ms:List (Nat × Tok)}
theorem zM (led:Bool) (h:In3 ms) (hk:k < 3) (hn:k ∉ ms.map (·.1)) (u:Tok):fY led ms k u:=by
 match k,hk with
 | 0,_=>cases h <;> first | exact yG .. | exact wR .. | exact xP .. | exact vz .. | (exfalso;apply hn;simp;done)
 | 1,_=>cases h <;> first | exact yI .. | exact yc .. | exact xn .. | exact vf .. | (exfalso;apply hn;simp;done)
 | 2,_=>cases h <;> first | exact y4 .. | exact xi .. | exact w5 .. | exact vN .. | (exfalso;apply hn;simp;done)
noncomputable def iA (h:Heap) (a:Addr) (led:Bool) (ms:List (Nat × Tok)):Prop:=∃ o ep,h.get? a = some o /\ o.ExactSet /\ o.data = .set (e3 ms) ep (t3 led ms) /\ In3 ms
theorem mr (led:Bool) (h:In3 ms):(t3 led ms).fits (e3 ms).size = true:=by cases h <;> rfl
theorem y3 (h:In3 ms):ElemsOf (intKind prog w) (e3 ms).toList:=by
 intro e he;unfold e3 at he;simp only [List.toList_toArray,List.mem_map] at he;obtain ⟨p,hp,rfl⟩:=he;refine ⟨⟨(p.1:Int),intKind_is _ _ _ _,?_⟩,rfl⟩
 cases h <;> simp at hp <;> (try (rcases hp with rfl | rfl | rfl)) <;> (try (rcases hp with rfl | rfl)) <;> (try subst hp) <;> rfl
theorem u7 (h:In3 ms):(e3 ms).size < 4:=by cases h <;> simp [e3]
variable {led:Bool}
theorem zK {a:Addr} {u:Tok} {Q:Bool->Shared->Prop} (hS:iA s.heap a led ms) (hk:k < 3)
  (h:∀ h',Heap.SameBut a s.heap h'->iA h' a led (if k ∈ ms.map (·.1) then ms else dD k u ms)->Q (!decide (k ∈ ms.map (·.1))) { s with heap:=h' }) :
  wpAny (model prog w) A (setAddHashed a (.int (k:Int) u) ((intKind prog w).hash (k:Int))) Q E s:=by
 obtain ⟨o,ep,ho,hex,hd,hin⟩:=hS;have hf:=mr led hin;have hel:=y3 (prog:=prog) (w:=w) hin;have hsm:=u7 hin;unfold setAddHashed setAddHashedIn;refine wpAny_holding (wpAny_bind (wpAny_setState_of ho hd hf ?_))
 dsimp only
 rw [byScan_of rfl (by unfold scanBound;omega) hel]
 simp only [↓reduceIte];unfold setAddByScan;refine wpAny_bind ?_
 refine wpAny_bind (wpAny_rule ?_)
 refine wpAny_bind (wpAny_setScan_of (k:=(k:Int)) (intKind_is _ _ _ _) ho hd hf hel ?_)
 by_cases hm:k ∈ ms.map (·.1)
 ·have hfi:∃ j,(e3 ms).toList.findIdx? (fun e=>(intKind prog w).is (k:Int) e.2) = some j:=by
   refine Option.isSome_iff_exists.mp ?_
   rw [List.findIdx?_isSome,List.any_eq_true];obtain ⟨p,hp,rfl⟩:=List.mem_map.mp hm;exact ⟨((p.1:Int),.int (p.1:Int) p.2),by unfold e3;simp only [List.toList_toArray];exact List.mem_map.mpr ⟨p,hp,rfl⟩,intKind_is _ _ _ _⟩
  obtain ⟨j,hj⟩:=hfi;rw [hj];dsimp only
  refine wpAny_pure (wpAny_pure ?_)
  have e:s = { s with heap:=s.heap }:=by cases s;rfl
  have:=h s.heap (Heap.SameBut.refl a s.heap) (by rw [if_pos hm];exact ⟨o,ep,ho,hex,hd,hin⟩)
  rw [decide_eq_true hm] at this;rw [e];exact this
 ·have hfi:(e3 ms).toList.findIdx? (fun e=>(intKind prog w).is (k:Int) e.2) = none:=by
   rw [List.findIdx?_eq_none_iff];intro e he;unfold e3 at he;simp only [List.toList_toArray,List.mem_map] at he;obtain ⟨p,hp,rfl⟩:=he;have hne:¬ (p.1:Int) = (k:Int):=fun q=>hm (List.mem_map.mpr ⟨p,hp,by omega⟩)
   show Value.isInt (k:Int) (.int (p.1:Int) p.2) = false
   cases q:Value.isInt (k:Int) (.int (p.1:Int) p.2) with
   | false=>rfl
   | true=>
    obtain ⟨t,e⟩:=Value.isInt_shape q;cases e;exact absurd rfl hne
  obtain ⟨L1,L2,L3⟩:=zM led hin hk hm u;have hh:(intKind prog w).hash (k:Int) = (k:Int):=by
   match k,hk with
   | 0,_=>rfl
   | 1,_=>rfl
   | 2,_=>rfl
  rw [hfi];dsimp only
  rw [hh,L1];dsimp only
  refine wpAny_bind (wpAny_pure ?_)
  rw [if_pos (show (t3 led (dD k u ms)).plain = true from rfl)]
  refine wpAny_bind ?_
  rw [hashByValue_scannable 8 rfl];refine wpAny_pure ?_
  simp only [show plainKind (Value.int (k:Int) u) = true from rfl,if_true]
  refine wpAny_bind (wpAny_storeSet_of ho hd ?_ (by have:=u7 L3;rw [sizeLine_eq];omega))
  simp only [L2,Bool.and_false,Bool.false_eq_true,if_false];refine wpAny_pure ?_
  dsimp only
  refine wpAny_pure ?_
  have hg:(s.heap.update a (Obj.putSet (e3 (dD k u ms)) (t3 led (dD k u ms)))).get? a = some { o with data:=.set (e3 (dD k u ms)) (ep + 1) (t3 led (dD k u ms)) }:=by
   have:=Heap.get?_update_self (Obj.putSet (e3 (dD k u ms)) (t3 led (dD k u ms))) ho (by rw [putSet_of _ _ hd];rfl)
   rw [putSet_of _ _ hd] at this;exact this
  have:=h _ (Heap.SameBut.update s.heap a (Obj.putSet (e3 (dD k u ms)) (t3 led (dD k u ms)))) (by rw [if_neg hm];exact ⟨_,ep + 1,hg,hex,rfl,L3⟩)
  rw [decide_eq_false hm] at this;exact this
variable {wr:List Addr} {G:Array GenState->Array GenState->Prop} {P:Nat->Value->Prop} {St:Nat->Shared->Prop}
theorem In3.mem_ins (h:In3 ms) (hk:k < 3) (u:Tok) (x:Nat):x ∈ (if k ∈ ms.map (·.1) then ms else dD k u ms).map (·.1) ↔ x ∈ ms.map (·.1) \/ x = k:=by
 have aux:∀ l:List (Nat × Tok),x ∈ (dD k u l).map (·.1) ↔ x ∈ l.map (·.1) \/ x = k:=by
  intro l
  induction l with
  | nil=>simp [dD]
  | cons p r ih=>
   unfold dD;split
   ·simp only [map_cons,List.mem_cons];constructor
    ·rintro (h | h | h)
     ·exact .inr h
     ·exact .inl (.inl h)
     ·exact .inl (.inr h)
    ·rintro ((h | h) | h)
     ·exact .inr (.inl h)
     ·exact .inr (.inr h)
     ·exact .inl h
   ·simp only [map_cons,List.mem_cons,ih];constructor
    ·rintro (h | h | h)
     ·exact .inl (.inl h)
     ·exact .inl (.inr h)
     ·exact .inr h
    ·rintro ((h | h) | h)
     ·exact .inl h
     ·exact .inr (.inl h)
     ·exact .inr (.inr h)
 split
 ·rename_i hm;constructor
  ·exact .inl
  ·rintro (h | rfl)
   ·exact h
   ·exact hm
 ·exact aux ms
theorem iA.at' {a:Addr} (x:iA h a led ms) (k:∀ o,h.get? a = some o->h'.get? a = some o):iA h' a led ms:=
 let ⟨o,ep,e,r⟩:=x;⟨o,ep,k _ e,r⟩
theorem zk (W:WalksS prog w A.in1 I fp wr G n P St) (S:Addr) (hSf:S ∉ fp) (led:Bool) (val:Nat->Nat) (hval:∀ i v,P i v->val i < 3 /\ ∃ t,v = .int (val i:Int) t) :
  ∀ (k i:Nat) (s:Shared) (ms:List (Nat × Tok)),n - i = k->i <= n->St i s->iA s.heap S led ms->(∀ x,x ∈ ms.map (·.1) ↔ ∃ j,j < i /\ val j = x)->
   (∀ s' ms',Moved (S :: wr) G s s'->iA s'.heap S led ms'->(∀ x,x ∈ ms'.map (·.1) ↔ ∃ j,j < n /\ val j = x)->R (.ok (.ret .none)) s')->
   codeAny (model prog w) A (.builtin "set.update.loop" ⟨[.ref S,.ref I],[]⟩) R s:=by
 have hSw:S ∉ wr:=fun h=>hSf (W.sub _ h)
 have hsub:∀ b ∈ wr,b ∈ S :: wr:=fun b hb=>List.mem_cons_of_mem _ hb
 intro k
 induction k with
 | zero=>
  intro i s ms hk hi hst hS hms hR;have hin:i = n:=by omega
  subst hin;refine codeAny_builtin F.entry_set_update_loop ?_
  rw [Around.under_plainId F.plain_set_update_loop _];show wpAny _ A.in1 (pyNext (.ref I) >>= _) _ _ s;refine wpAny_bind (W.done s _ _ hst fun s' hm=>?_)
  show wpAny _ A.in1 (ret Value.none) _ _ s';exact wpAny_pure (hR s' ms (hm.mono hsub) (hS.at' fun o e=>hm.heap S _ hSw e) hms)
 | succ k ih=>
  intro i s ms hk hi hst hS hms hR;have hlt:i < n:=by omega
  refine codeAny_builtin F.entry_set_update_loop ?_
  rw [Around.under_plainId F.plain_set_update_loop _];show wpAny _ A.in1 (pyNext (.ref I) >>= _) _ _ s;refine wpAny_bind (W.item i s _ _ hlt hst fun v s' hP hst' hm=>?_)
  obtain ⟨h3,t,rfl⟩:=hval i v hP;have hS':iA s'.heap S led ms:=hS.at' fun o e=>hm.heap S _ hSw e
  show wpAny _ A.in1 (holding [Value.int (val i:Int) t] (setAdd S (.int (val i:Int) t)) >>= _) _ _ s';refine wpAny_bind (wpAny_holding ?_)
  unfold setAdd;refine wpAny_holding ?_
  refine wpAny_bind ((intKind prog w).pyHash (k:=(val i:Int)) (intKind_is _ _ _ _) ?_)
  obtain ⟨_,_,_,_,_,hin⟩:=id hS';refine zK (s:={ s' with toks:=s'.toks + 1 }) hS' h3 fun h' hsb hS2=>?_
  refine wpAny_pure ⟨plainId_quiet F.plain_set_update_loop _,ih (i + 1) _ _ (by omega) hlt (W.frame _ s' _ _ hst' (le_succ _) fun b hb o e=>?_) hS2 (fun x=>?_) fun s'' ms' hm'' hS'' hx=>?_⟩
  ·rw [hsb.2 b (fun h:b = S=>hSf (by rw [<- h];exact hb))];exact e
  ·rw [hin.mem_ins h3,hms x];constructor
   ·rintro (⟨j,hj,e⟩ | rfl)
    ·exact ⟨j,by omega,e⟩
    ·exact ⟨i,by omega,rfl⟩
   ·rintro ⟨j,hj,e⟩
    by_cases q:j = i
    ·subst q;exact .inr e.symm
    ·exact .inl ⟨j,by omega,e⟩
  ·refine hR s'' ms' (Moved.trans W.gtrans ((hm.mono hsub).then_heap (le_succ _) fun b o hb e=>?_) hm'') hS'' hx
   rw [hsb.2 b (fun h:b = S=>hb (by rw [h];exact List.mem_cons_self))];exact e
theorem zI (a:Value) {Q1:Value->Shared->Prop}
  (h:Q1 (.ref s.heap.objs.size) { s with heap:=s.heap.push { cls:=.type "set",dict:=none,data:=.set #[] 0 (.fresh 0 0 (!w.params.followText "set-order")) } }) :
  codeAny (model prog w) A (.call (.builtin "set.__new__") ⟨[.type "set",a],[]⟩) (wants Q1 E) s:=by
 refine codeAny_of_tree ?_
 show wpAny _ A.in1 (do checkBuiltinCall "set.__new__" ⟨[.type "set",a],[]⟩;again (.builtin "set.__new__" ⟨[.type "set",a],[]⟩)) _ _ s
 refine wpAny_bind (wpAny_of_eq (PySem.F.newCall_set_1 a) (wpAny_pure ⟨plainId_quiet PySem.F.plain_set_new _,codeAny_builtin PySem.F.entry_set_new ?_⟩))
 rw [Around.under_plainId PySem.F.plain_set_new _];unfold Builtin.«set.__new__» Builtin.Frozenset.newClass;have hsub:=sub_set_self;obtain ⟨hp,g,d,tk,os⟩:=s;dsimp only
 wp_walk
 refine wpAny_askSetting (wpAny_pure ?_)
 dsimp only
 simp only [newObj];refine wpAny_bind (wpAny_alloc (wpAny_pure ?_))
 exact wpAny_pure h
noncomputable abbrev sO (led:Bool):Obj:={ cls:=.type "set",dict:=none,data:=.set #[] 0 (.fresh 0 0 led) }
set_option maxHeartbeats 3200000 in
theorem zw {S l:Addr} {led:Bool} {vs:List Value} {ms:List Nat} {Q:Value->Shared->Prop}
  (hh:A.handled = none) (hS:s.heap.get? S = some (sO led)) (hT:s.TypeIs (.ref S) "set") (hlS:l < S) (hl:s.heap.IsList l vs.toArray) (hv:∀ (i:Nat) (v:Value),vs[i]? = some v->ms.getD i 0 < 3 /\ ∃ t,v = .int (ms.getD i 0:Int) t) (hlen:vs.length = ms.length)
  (h:∀ (h':Heap) (tk:Nat) (ps:List (Nat × Tok)),iA h' S led ps->(∀ x,x ∈ ps.map (·.1) ↔ x ∈ ms)->(∀ b o,b < S->s.heap.get? b = some o->h'.get? b = some o)->s.toks <= tk->Q .none { s with heap:=h',toks:=tk }) :
  codeAny (model prog w) A (.call (.builtin "set.__init__") ⟨[.ref S,.ref l],[]⟩) (wants Q E) s:=by
 refine codeAny_call_builtin PySem.F.called_set.init.plain PySem.F.entry_set_init (check_set_init_1 hT ?_)
 have hl':=hl;obtain ⟨ol,hol,hcl,nl,hdl⟩:=hl';obtain ⟨ocls,odict,odata,oslots⟩:=ol;simp only at hcl hdl;subst hcl;subst hdl;have hsls:=PySem.F.sub_list_set;have hslf:=PySem.F.sub_list_frozenset;have hne:(Value.type "list" == Value.type "dict") = false:=by decide
 unfold Builtin.«set.__init__» noKeywords Builtin.Frozenset.updateFrom;generalize hPI:pyIter = PI;wp_walk
 subst hPI;clear hol hsls hslf hne hT;refine wpAny_pyIter_list hl ?_
 refine wpAny_bind (wpAny_runValue ?_)
 have hsz:=Heap.lt_size hS;have hneI:l ≠ s.heap.objs.size:=ne_of_lt (Nat.lt_trans hlS hsz);refine zk ((Walks.list ?hh3 _ l hneI vs.toArray).toS) S
  (fun q=>(List.mem_cons.mp q).elim (ne_of_lt hsz) fun q=>ne_of_gt hlS (List.mem_singleton.mp q)) led (fun i=>ms.getD i 0) (fun i v q=>hv i v (by simpa using q)) (vs.toArray.size - 0) 0 _ [] (by omega) (zero_le _)
  ⟨⟨_,Heap.get?_push_size _ rfl,rfl,rfl⟩,(hl.push _)⟩ ?h3 (fun x=>⟨fun q=>(nomatch q),fun ⟨j,q,_⟩=>absurd q (Nat.not_lt_zero _)⟩) ?_
 case hh3=>exact hh
 case h3=>exact ⟨sO led,0,Heap.get?_push_of_some _ hS,⟨rfl,rfl,rfl⟩,rfl,.s0⟩
 intro s' ps hm hS' hps;obtain ⟨h',g',d',tk',os'⟩:=s';have eg:g' = s.gens:=hm.gens;have ed:d' = s.drawn:=hm.drawn;have eo:os' = s.os:=hm.os;subst eg;subst ed;subst eo;refine wpAny_pure ?_
 show wpAny _ _ (ret Value.none) _ _ _;refine wpAny_pure (h h' tk' ps hS' (fun x=>?_) (fun b o hb e=>?_) hm.toks)
 ·rw [hps x,List.size_toArray,hlen];constructor
  ·rintro ⟨j,hj,rfl⟩
   rw [getD_eq_getElem?_getD,List.getElem?_eq_getElem hj];exact getElem_mem hj
  ·intro hx;obtain ⟨j,hj,e⟩:=List.mem_iff_getElem.mp hx;exact ⟨j,hj,by rw [getD_eq_getElem?_getD,List.getElem?_eq_getElem hj];exact e⟩
 ·exact hm.heap b o (fun q=>(List.mem_cons.mp q).elim (ne_of_lt hb) fun q=>ne_of_lt (Nat.lt_trans hb hsz) (List.mem_singleton.mp q)) (Heap.get?_push_of_some _ e)
set_option maxHeartbeats 3200000 in
theorem zx {ms:List Nat} 
  (hh:A.handled = none) (hl:s.heap.IsList l vs.toArray) (hv:∀ (i:Nat) (v:Value),vs[i]? = some v->ms.getD i 0 < 3 /\ ∃ t,v = .int (ms.getD i 0:Int) t) (hlen:vs.length = ms.length)
  (h:∀ (h':Heap) (tk:Nat) (ps:List (Nat × Tok)),iA h' s.heap.objs.size (!w.params.followText "set-order") ps->(∀ x,x ∈ ps.map (·.1) ↔ x ∈ ms)->
   (∀ b o,b < s.heap.objs.size->s.heap.get? b = some o->h'.get? b = some o)->s.toks <= tk->Q (.ref s.heap.objs.size) { s with heap:=h',toks:=tk }) :
  wpAny (model prog w) A (call (.type "set") [.ref l]) Q E s:=by
 obtain ⟨c,tl,hmro⟩:=PySem.F.called_set.mro;have hmade:=PySem.F.called_set.made;have hsub:=PySem.F.called_set.sub;generalize hled:(!w.params.followText "set-order") = led at h;refine wpAny_call (codeAny_of_tree ?_)
 show wpAny _ _ (callAny (.type "set") _) _ _ _;refine wpAny_pure ⟨Code.quiet_builtin _ (by decide +kernel),codeAny_builtin PySem.F.entry_type_call ?_⟩
 rw [Around.under_plain (weight_type_call_type "set" [.ref l] []) rfl];have h1:=PySem.F.called_set.notType;have h2:=PySem.F.called_set.canCreate;have hct:=PySem.F.typeCall_set_1 (.ref l);repeat (any_goals (first | assumption | wp_step))
 refine codeAny_mono (zI (.ref l) (E:=E) (Q1:=fun obj sI=>obj = .ref s.heap.objs.size /\ sI = { s with heap:=s.heap.push (sO led) }) ⟨rfl,by rw [hled]⟩) fun r sI hr=>?_
 clear h1 h2 hct
 cases r with
 | error e=>exact hr
 | ok fl=>
  cases fl with
  | ret obj=>
   obtain ⟨rfl,rfl⟩:=hr;have hS:(s.heap.push (sO led)).get? s.heap.objs.size = some (sO led):=Heap.get?_push_size _ rfl;have hT:Shared.TypeIs { s with heap:=s.heap.push (sO led) } (.ref s.heap.objs.size) "set":=⟨_,hS,rfl⟩
   have hli:=PySem.F.called_set.init.lookup;have hbi:=PySem.F.called_set.init.bind (.ref s.heap.objs.size);repeat (any_goals (first | assumption | wp_step))
   refine codeAny_mono (zw (E:=E) (Q:=fun r sB=>r = .none /\ Q (.ref s.heap.objs.size) sB) hh hS hT (let ⟨_,e,_⟩:=hl;Heap.lt_size e) (hl.push _) hv hlen fun h' tk ps a b k t=>⟨rfl,h h' tk ps a b (fun b o lt e=>k b o lt (Heap.get?_push_of_some _ e)) t⟩) fun rB sB hr2=>?_
   cases rB with
   | error e=>exact hr2
   | ok fl2=>
    cases fl2 with
    | ret r=>
     obtain ⟨rfl,hQ⟩:=hr2;repeat (any_goals (first | assumption | wp_step))
    | _=>exact hr2.elim
  | _=>exact hr.elim
theorem dc:Slot "set_iterator" "__next__" "set_iterator.__next__" :=
 .of (owner := "set_iterator") (n := "__next__") (by rw [typeLookup_type,builtinLookup_eq_fast];kernel_rfl) (by decide +kernel) (by decide +kernel) (by decide +kernel)
  (by first | exact .inl (by decide +kernel) | exact .inr (by decide +kernel)) (by rw [isSubtype_type];kernel_rfl)
theorem jz:entryFor table "set_iterator.__next__" = some Builtin.«set_iterator.__next__»:=entryFor_of_tree (by kernel_rfl)
theorem jT (a:Value):argsOk "set_iterator.__next__" ⟨[a],[]⟩:=by unfold argsOk;kernel_rfl
theorem jC:Slot "set" "__iter__" "set.__iter__" :=
 .of (owner := "set") (n := "__iter__") (by rw [typeLookup_type,builtinLookup_eq_fast];kernel_rfl) (by decide +kernel) (by decide +kernel) (by decide +kernel)
  (by first | exact .inl (by decide +kernel) | exact .inr (by decide +kernel)) (by rw [isSubtype_type];kernel_rfl)
theorem m5:entryFor table "set.__iter__" = some Builtin.«frozenset.__iter__»:=entryFor_alias (id' := "frozenset.__iter__") (by kernel_rfl) rfl (by decide +kernel) (by kernel_rfl)
theorem oU (a:Value):argsOk "set.__iter__" ⟨[a],[]⟩:=by unfold argsOk;kernel_rfl
theorem jX:Slot "set_iterator" "__iter__" "set_iterator.__iter__" :=
 .of (owner := "set_iterator") (n := "__iter__") (by rw [typeLookup_type,builtinLookup_eq_fast];kernel_rfl) (by decide +kernel) (by decide +kernel) (by decide +kernel)
  (by first | exact .inl (by decide +kernel) | exact .inr (by decide +kernel)) (by rw [isSubtype_type];kernel_rfl)
theorem oR:entryFor table "set_iterator.__iter__" = some Builtin.«dict_keyiterator.__iter__»:=entryFor_alias (id' := "dict_keyiterator.__iter__") (by kernel_rfl) rfl (by decide +kernel) (by kernel_rfl)
theorem qc (a:Value):argsOk "set_iterator.__iter__" ⟨[a],[]⟩:=by unfold argsOk;kernel_rfl
theorem pU:typeLookup (.type "set") "__len__" = pure (some (.builtin "set.__len__")):=by rw [typeLookup_type,builtinLookup_eq_fast];kernel_rfl
section
theorem mw {α:Type}:∀ (l:List α) (i:Nat) (h:i < l.length),(l[i] :: l.eraseIdx i).Perm l
 | a :: l,0,_=>.refl _
 | a :: l,i + 1,h=>by
  have:=mw l i (by simpa using h)
  rw [getElem_cons_succ,List.eraseIdx_cons_succ];exact (List.Perm.swap _ _ _).trans (this.cons a)
theorem rZ {α:Type} (next:Nat->Nat):∀ (fuel k:Nat) (left:List α) (out:Array α),left.length = fuel->(pickOrder.go next fuel k left out).toList.Perm (out.toList ++ left)
 | 0,k,left,out,h=>by
  have:left = []:=List.length_eq_zero_iff.mp h;subst this;unfold pickOrder.go;simp
 | fuel + 1,k,left,out,h=>by
  unfold pickOrder.go;have hlt:next k % left.length < left.length:=Nat.mod_lt _ (by omega)
  rw [List.getElem?_eq_getElem hlt];dsimp only
  refine (rZ next fuel (k + 1) _ _ (by rw [List.length_eraseIdx_of_lt hlt];omega)).trans ?_
  rw [Array.toList_push,append_assoc,List.singleton_append];exact List.Perm.append_left _ (mw _ _ hlt)
theorem uv {α:Type} (next:Nat->Nat) (xs:Array α):(pickOrder next xs).toList.Perm xs.toList:=by
 have:=rZ next xs.size 0 xs.toList #[] (by simp)
 simpa [pickOrder] using this
noncomputable def fV (w:World) (a:Addr) (ep:Nat) (es:Array (Int × Value)):Array (Int × Value):=if w.params.followText "set-order" then pickOrder (w.params.setOrder a ep) es else es
theorem kh (w:World) (a:Addr) (ep:Nat) (es:Array (Int × Value)):(fV w a ep es).toList.Perm es.toList:=by
 unfold fV;split
 ·exact uv _ _
 ·exact .refl _
noncomputable def bP (u0 u1 u2:Tok):List (Nat × Tok):=[(0,u0),(1,u1),(2,u2)]
noncomputable def gh (w:World) (i:Nat):Nat:=if w.params.followText "set-order" then 0 else i
noncomputable def cE (w:World) (h:Heap) (a:Addr) (ep:Nat) (u0 u1 u2:Tok):Prop:=∃ o,h.get? a = some o /\ o.ExactSet /\ o.data = .set (e3 (bP u0 u1 u2)) ep (t3 (!w.params.followText "set-order") (bP u0 u1 u2))
noncomputable def gN (w:World) (h:Heap) (I a:Addr) (ep i:Nat):Prop:=∃ o,h.get? I = some o /\ o.cls = .type "set_iterator" /\ o.data = .fields #[.int (gh w i:Int) 0,.int (i:Int) 0,.ref a,.int 3 0,.int (ep:Int) 0]
section
variable {a:Addr} {u0 u1 u2:Tok}
theorem wF {Q:Option (Value × Nat)->Shared->Prop} (hS:cE w s.heap a ep u0 u1 u2) (hi:i <= 3)
  (h:Q (((fV w a ep (e3 (bP u0 u1 u2)))[i]?).map fun e=>(e.2,gh w (i + 1))) s):wpAny (model prog w) A (setNext a (gh w i) i ep) Q E s:=by
 obtain ⟨o,ho,hex,hd⟩:=hS;have hf:=mr (!w.params.followText "set-order") (In3.s7 u0 u1 u2);unfold setNext;refine wpAny_bind (wpAny_setState_of ho hd hf ?_)
 dsimp only
 unfold setsByText;refine wpAny_bind (wpAny_bind (wpAny_askSetting (wpAny_pure ?_)))
 unfold fV gh at h;unfold gh;show wpAny _ A (if w.params.followText "set-order" = true then _ else _) Q E s
 cases hb:w.params.followText "set-order" with
 | true=>
  rw [hb] at h hd hf;simp only [if_true] at h ⊢;rw [if_neg (by simp)]
  unfold setWalk;refine wpAny_bind ?_
  refine wpAny_bind (wpAny_setState_of ho hd hf ?_)
  dsimp only
  unfold setsByText;refine wpAny_bind (wpAny_bind (wpAny_askSetting (wpAny_pure ?_)))
  show wpAny _ A (if w.params.followText "set-order" = true then _ else _) _ E s
  rw [if_pos hb];exact wpAny_bind (wpAny_askSetting (wpAny_pure (wpAny_pure h)))
 | false=>
  rw [hb] at h hd hf;simp only [Bool.false_eq_true,if_false] at h ⊢;refine wpAny_ite_split (fun q=>absurd q Bool.false_ne_true) fun _=>?_
  show wpAny _ A (pure () >>= _) Q E s;refine wpAny_bind (wpAny_pure (wpAny_pure ?_))
  have hbl:∀ k,k <= 3->SetTable.below (t3 true (bP u0 u1 u2)).place k = k:=fun k hk=>by
   match k,hk with
   | 0,_=>kernel_rfl
   | 1,_=>kernel_rfl
   | 2,_=>kernel_rfl
   | 3,_=>kernel_rfl
  show Q (match (e3 (bP u0 u1 u2))[SetTable.below (t3 true (bP u0 u1 u2)).place i]?,(t3 true (bP u0 u1 u2)).place[SetTable.below (t3 true (bP u0 u1 u2)).place i]? with
   | some (fst,x),some j=>some (x,j + 1)
   | x,x_1=>none) s
  rw [hbl i hi]
  match i,hi with
  | 0,_=>exact h
  | 1,_=>exact h
  | 2,_=>exact h
  | 3,_=>exact h
theorem gN.typeIs (x:gN w s.heap I a ep i):s.TypeIs (.ref I) "set_iterator":=let ⟨o,ho,hc,_⟩:=x;⟨o,ho,hc⟩
theorem cE.typeIs (x:cE w s.heap a ep u0 u1 u2):s.TypeIs (.ref a) "set":=let ⟨o,ho,hc,_⟩:=x;⟨o,ho,hc.1⟩
theorem jq:(fV w a ep (e3 (bP u0 u1 u2))).size = 3:=by
 have:=(kh w a ep (e3 (bP u0 u1 u2))).length_eq;simpa [e3,bP] using this
theorem wh {Q:Option Value->Shared->Prop} {e:Int × Value} (hit:gN w s.heap I a ep i) (hS:cE w s.heap a ep u0 u1 u2) (hx:(fV w a ep (e3 (bP u0 u1 u2)))[i]? = some e)
  (hQ:∀ h',gN w h' I a ep (i + 1)->Heap.SameBut I s.heap h'->Q (some e.2) { s with heap:=h' }):wpAny (model prog w) A (pyNext (.ref I)) Q E s:=by
 obtain ⟨o,ho,hc,hd⟩:=id hit;obtain ⟨oS,hoS,hexS,hdS⟩:=id hS;have hi:i < 3:=by
  obtain ⟨h,_⟩:=Array.getElem?_eq_some_iff.mp hx;rw [jq] at h;exact h
 have hf:=mr (!w.params.followText "set-order") (In3.s7 u0 u1 u2);unfold pyNext;refine wpAny_bind (wpAny_attempt (wpAny_callSpecial?_slot (name:=Str.ofString "__next__") hit.typeIs dc (wpAny_call_entry dc hit.typeIs jz ?_ (jT _))))
 refine wpAny_bind (wpAny_pure ?_)
 refine wpAny_bind (wpAny_fieldsOf ho hd ?_)
 show wpAny _ _ (setEntries a >>= _) _ _ s;unfold setEntries;refine wpAny_bind (wpAny_bind (wpAny_setState_of hoS hdS hf (wpAny_pure ?_)))
 dsimp only
 rw [if_neg (by simp [e3,bP])]
 show wpAny _ _ (setNext a (gh w i:Int).toNat (i:Int).toNat (ep:Int).toNat >>= _) _ _ s;simp only [Int.toNat_natCast];refine wpAny_bind (wF hS (by omega) ?_)
 rw [hx];dsimp only [Option.map]
 have h1:=Heap.get?_update_self (Obj.mapFields (·.setIfInBounds 0 (rawInt (gh w (i + 1):Int)))) ho (Obj.isFreed_of_fields (Obj.data_mapFields hd _));have d1:=Obj.data_mapFields hd (·.setIfInBounds 0 (rawInt (gh w (i + 1):Int)));refine wpAny_bind (wpAny_setField ho hd (by simp) ?_)
 have h2:=Heap.get?_update_self (Obj.mapFields (·.setIfInBounds 1 (rawInt ((i:Int) + 1)))) h1 (Obj.isFreed_of_fields (Obj.data_mapFields d1 _));have d2:=Obj.data_mapFields d1 (·.setIfInBounds 1 (rawInt ((i:Int) + 1)));refine wpAny_bind (wpAny_setField h1 d1 (by simp) ?_)
 refine wpAny_pure ⟨_,rfl,wpAny_pure (hQ _ ⟨_,h2,(Obj.cls_mapFields ..).trans ((Obj.cls_mapFields ..).trans hc),by rw [d2];simp [rawInt]⟩ ?_)⟩
 exact (Heap.SameBut.update ..).trans (Heap.SameBut.update ..)
theorem wU {Q:Option Value->Shared->Prop} (hh:A.handled = none) (hit:gN w s.heap I a ep 3) (hS:cE w s.heap a ep u0 u1 u2)
  (hQ:∀ h',Heap.ExtBut I s.heap h'->Q none { s with heap:=h' }):wpAny (model prog w) A (pyNext (.ref I)) Q E s:=by
 obtain ⟨o,ho,hc,hd⟩:=id hit;obtain ⟨oS,hoS,hexS,hdS⟩:=id hS;have hf:=mr (!w.params.followText "set-order") (In3.s7 u0 u1 u2);unfold pyNext;refine wpAny_bind (wpAny_attempt (wpAny_callSpecial?_slot (name:=Str.ofString "__next__") hit.typeIs dc (wpAny_call_entry dc hit.typeIs jz ?_ (jT _))))
 refine wpAny_bind (wpAny_pure ?_)
 refine wpAny_bind (wpAny_fieldsOf ho hd ?_)
 show wpAny _ _ (setEntries a >>= _) _ _ s;unfold setEntries;refine wpAny_bind (wpAny_bind (wpAny_setState_of hoS hdS hf (wpAny_pure ?_)))
 dsimp only
 rw [if_neg (by simp [e3,bP])]
 show wpAny _ _ (setNext a (gh w 3:Int).toNat 3 (ep:Int).toNat >>= _) _ _ s;simp only [Int.toNat_natCast];refine wpAny_bind (wF hS (by omega) ?_)
 rw [Array.getElem?_eq_none (by rw [jq];omega)]
 dsimp only [Option.map]
 refine wpAny_bind (wpAny_setField ho hd (by simp) ?_)
 show wpAny _ _ (newExc (.type "StopIteration") [] >>= _) _ _ _;refine wpAny_bind ?_
 simp only [newExc,newTuple];refine wpAny_bind (wpAny_newObj_type ?_ (by size_fits))
 refine wpAny_bind (m:=firstArgMember _ _) (wpAny_of_eq (a:=Value.none) (by first | rfl | (simp only [firstArgMember];rfl)) ?_)
 refine wpAny_newObj_type ?_ (by size_fits)
 unfold raiseNew;refine wpAny_bind (wpAny_handled ?_)
 rw [show A.in1.handled = none from hh]
 refine wpAny_bind (wpAny_pure (wpAny_throw ?_))
 refine wpAny_bind (wpAny_isInstance (T := "StopIteration") (b:=true) ⟨_,Heap.get?_push_size _ rfl,rfl⟩ isSubtype_stop ?_)
 exact wpAny_pure (hQ _ (((Heap.SameBut.update ..).extBut.push _).push _))
theorem gN.at' {h h':Heap} (x:gN w h I a ep i) (k:∀ o,h.get? I = some o->h'.get? I = some o):gN w h' I a ep i:=let ⟨o,ho,r⟩:=x;⟨o,k _ ho,r⟩
theorem cE.at' {h h':Heap} (x:cE w h a ep u0 u1 u2) (k:∀ o,h.get? a = some o->h'.get? a = some o):cE w h' a ep u0 u1 u2:=let ⟨o,ho,r⟩:=x;⟨o,k _ ho,r⟩
theorem yT (hh:A.handled = none) (hne:a ≠ I) :
  Walks prog w A I [I,a] [I] 3 (fun i v=>∃ e,(fV w a ep (e3 (bP u0 u1 u2)))[i]? = some e /\ v = e.2) (fun i h=>gN w h I a ep i /\ cE w h a ep u0 u1 u2) where
 sub:=fun b hb=>by simp at hb;simp [hb]
 frame:=fun _ _ _ st hk=>⟨st.1.at' fun o e=>hk I (by simp) o e,st.2.at' fun o e=>hk a (by simp) o e⟩
 item:=fun i s Q E hi st hQ=>by
  have hx:(fV w a ep (e3 (bP u0 u1 u2)))[i]? = some ((fV w a ep (e3 (bP u0 u1 u2)))[i]'(by rw [jq];exact hi)):=Array.getElem?_eq_getElem _
  refine wh st.1 st.2 hx fun h' hit' hs'=>?_
  exact hQ _ h' s.toks ⟨_,hx,rfl⟩ ⟨hit',st.2.at' fun o e=>(hs'.2 a hne).trans e⟩ fun b o hb e=>hs'.extBut b o (fun h=>hb (by simp [h])) e
 done:=fun s Q E st hQ=>wU hh st.1 st.2 fun h' he'=>hQ h' s.toks fun b o hb e=>he' b o (fun h=>hb (by simp [h])) e
 self:=fun _ s _ _ st hQ=>by
  have hit:=st.1;refine wpAny_pyIter_slot hit.typeIs jX (wpAny_call_entry jX hit.typeIs oR ?_ (qc _))
  show wpAny _ _ (ret (.ref I)) _ _ s;exact wpAny_pure ⟨_,rfl, "set_iterator",_,hit.typeIs,dc.lookup,hQ⟩
theorem ze {Q:Bool->Shared->Prop} (hT:s.TypeIs (.ref a) "set") (h:Q false s):wpAny (model prog w) A (Builtin.List.listLengthHint (.ref a)) Q E s:=by
 unfold Builtin.List.listLengthHint;refine wpAny_bind (wpAny_specialOf hT pU ?_)
 generalize hid:("set.__len__" : String) = id0;wp_delta
 rw [show splitId id0 = some ("set", "__len__") from by subst hid;decide +kernel]
 subst hid;refine wpAny_bind (wpAny_isInstance (T := "set") (b:=true) hT (by rw [isSubtype_type];kernel_rfl) ?_)
 refine wpAny_ite_split (fun hab=>absurd hab (by decide)) (fun _=>?_)
 refine wpAny_ite_split (fun _=>?_) (fun hab=>absurd (by decide +kernel) hab)
 refine wpAny_bind (wpAny_typeOf hT ?_)
 exact wpAny_pure h
theorem zv {Q:Value->Shared->Prop} (hS:cE w s.heap a ep u0 u1 u2)
  (hQ:Q (.ref s.heap.objs.size) { s with heap:=s.heap.push { cls:=.type "set_iterator",data:=.fields #[.int 0 0,.int 0 0,.ref a,.int 3 0,.int (ep:Int) 0] } }):wpAny (model prog w) A (pyIter (.ref a)) Q E s:=by
 obtain ⟨oS,hoS,hexS,hdS⟩:=id hS;have hf:=mr (!w.params.followText "set-order") (In3.s7 u0 u1 u2);refine wpAny_pyIter_slot hS.typeIs jC (wpAny_call_entry jC hS.typeIs m5 ?_ (oU _))
 unfold Builtin.«frozenset.__iter__»;refine wpAny_bind ?_
 unfold Builtin.Frozenset.slot0;refine wpAny_bind (wpAny_pure ?_)
 show wpAny _ _ (pure a) _ _ s;refine wpAny_pure ?_
 unfold Builtin.Frozenset.sizeOf setEntries;refine wpAny_bind (wpAny_bind (wpAny_bind (wpAny_setState_of hoS hdS hf (wpAny_pure (wpAny_pure ?_)))))
 unfold setDrawn;refine wpAny_bind (wpAny_bind (wpAny_setState_of hoS hdS hf ?_))
 dsimp only
 unfold setsByText;refine wpAny_bind (wpAny_bind (wpAny_askSetting (wpAny_pure (wpAny_pure ?_))))
 refine wpAny_ite_split (fun q=>absurd q (by show ¬ ((!w.params.followText "set-order") && false) = true;rw [Bool.and_false];exact Bool.false_ne_true)) fun _=>?_
 refine wpAny_bind (wpAny_pure ?_)
 unfold setEpoch;refine wpAny_bind (wpAny_bind (wpAny_setState_of hoS hdS hf (wpAny_pure ?_)))
 refine wpAny_bind (wpAny_newObj_type (wpAny_pure ⟨_,rfl, "set_iterator",_,⟨_,Heap.get?_push_size _ rfl,rfl⟩,dc.lookup,?_⟩))
 exact hQ
theorem z2:KdlSrc prog w "set" a a 3 (fun i v=>∃ e,(fV w a ep (e3 (bP u0 u1 u2)))[i]? = some e /\ v = e.2) (fun h=>cE w h a ep u0 u1 u2) where
 type:=fun _ hm=>hm.typeIs
 there:=fun _ ⟨o,ho,_⟩=>⟨Heap.lt_size ho,Heap.lt_size ho⟩
 keep:=fun _ _ hm hk=>hm.at' fun o e=>hk a (.inl rfl) o e
 notList:=by decide
 notTuple:=by decide
 hint:=fun _ _ _ _ hm hq=>ze hm.typeIs hq
 iter:=fun _ s hh hm=>⟨_,_,(fun _ _ hq=>zv hm hq),yT hh (by obtain ⟨o,ho,_⟩:=hm;exact ne_of_lt (Heap.lt_size ho)),
  ⟨⟨_,Heap.get?_push_size _ rfl,rfl,by unfold gh;split <;> rfl⟩,hm.at' fun o e=>Heap.get?_push_of_some _ e⟩⟩
end
end
section
theorem In3.full {ps:List (Nat × Tok)} (h:In3 ps) (hall:∀ x,x < 3->x ∈ ps.map (·.1)):∃ u0 u1 u2,ps = bP u0 u1 u2:=by
 have h0:=hall 0 (by omega)
 have h1:=hall 1 (by omega)
 have h2:=hall 2 (by omega)
 cases h with
 | s7 u0 u1 u2=>exact ⟨u0,u1,u2,rfl⟩
 | s0=>simp at h0
 | s1=>simp at h1
 | s2=>simp at h0
 | s3=>simp at h0
 | s4=>simp at h2
 | s5=>simp at h1
 | s6=>simp at h0
theorem uO {ns:List Int} (hp:ns.Perm [0,1,2]) (hs:ns.Pairwise (· <= ·)):ns = [0,1,2]:=
 hp.eq_of_pairwise (fun a b _ _ h1 h2=>Int.le_antisymm h1 h2) hs (by decide)
theorem qy {h:Heap} {O:List Addr} {M:Addr->Prop}:∀ {vs:List Value} {ns:List Int},IntsAre vs ns->am h O M vs (ns.map .int)
 | _,_,.nil=>.nil
 | _,_,.cons n t r=>.cons (.int n t) (qy r)
theorem q8 {ns:List Int}:∀ {vs:List Value},vs.length = ns.length->(∀ (i:Nat) v,vs[i]? = some v->∃ t,v = .int (ns.getD i 0) t)->IntsAre vs ns:=by
 induction ns with
 | nil=>intro vs hl _;cases vs with | nil=>exact .nil | cons _ _=>cases hl
 | cons n r ih=>
  intro vs hl hv
  cases vs with
  | nil=>cases hl
  | cons v vs=>
   obtain ⟨t,rfl⟩:=hv 0 v rfl;exact .cons n t (ih (by simpa using hl) fun i u hu=>by simpa using hv (i + 1) u (by simpa using hu))
section
variable {a:Addr} {u0 u1 u2:Tok}
theorem xr {Q:Value->Shared->Prop} (hh:A.handled = none) (hS:cE w s.heap a ep u0 u1 u2)
  (h:∀ h' tk D out,(∀ b o,s.heap.get? b = some o->h'.get? b = some o)->s.heap.get? D = none->h'.PlainList D out->IntsAre out.toList [0,1,2]->s.toks <= tk->Q (.ref D) { s with heap:=h',toks:=tk }) :
  wpAny (model prog w) A (call (.builtin "sorted") [.ref a]) Q E s:=by
 refine Calls.call_function_entry kind_sorted plain_sorted entry_sorted (args_sorted1 _) ?_
 unfold Builtin.«sorted»;refine wpAny_bind (m:=checkCount "sorted" 1 1 _) (wpAny_pure ?_)
 refine wpAny_with_toks (Nat.le_refl s.toks) ?_
 refine wpAny_bind (kdu_collect (A:=A.in1) z2 hh hS (by rw [sizeLine_eq];omega) fun h' tk acc hk hacc=>?_)
 have hl:acc.toList.length = 3:=by rw [Array.length_toList];exact hacc.1
 refine wpAny_bind (wpAny_newList ?_ (by rw [hl,sizeLine_eq];omega))
 have hoL:(h'.push (seqObj "list" acc.toList.toArray 0)).get? h'.objs.size = some (seqObj "list" acc.toList.toArray 0):=Heap.get?_push_size _ rfl;have hI:IntsAre acc.toList ((fV w a ep (e3 (bP u0 u1 u2))).toList.map (·.1)):=by
  refine q8 (by rw [hl,length_map,Array.length_toList,jq]) fun i v hv=>?_
  obtain ⟨e,he,rfl⟩:=hacc.2 i v (by rw [<- Array.getElem?_toList];exact hv)
  have he':(fV w a ep (e3 (bP u0 u1 u2))).toList[i]? = some e:=by rw [Array.getElem?_toList];exact he
  have hm:=(kh w a ep (e3 (bP u0 u1 u2))).mem_iff.mp (mem_of_getElem? he');have:∃ p:Nat × Tok,e = ((p.1:Int),Value.int (p.1:Int) p.2):=by
   unfold e3 at hm;simp only [List.mem_map] at hm;obtain ⟨p,_,rfl⟩:=hm;exact ⟨p,rfl⟩
  obtain ⟨p,rfl⟩:=this;refine ⟨p.2,?_⟩
  rw [getD_eq_getElem?_getD,getElem?_map,he'];rfl
 have hP:((fV w a ep (e3 (bP u0 u1 u2))).toList.map (·.1)).Perm [0,1,2]:=(kh w a ep (e3 (bP u0 u1 u2))).map (·.1);refine wpAny_bind (wpAny_holding (wpAny_call_entry slot_list_sort ⟨_,hoL,rfl⟩ entry_list_sort (list_sort_tree hoL hI (by omega) fun out ns' a1 a2 a3=>⟨_,rfl,?_⟩) (args_list_sort _)))
 have e:=uO (a2.trans hP) a3;subst e;refine wpAny_pure fun le=>⟨_,rfl,?_⟩
 obtain ⟨e,hD⟩:=sortedHeap_at (out:=out) hoL;refine h _ _ _ out (fun b o ho=>?_) ?_ ⟨e,hD⟩ a1 le
 ·have hb:=Heap.lt_size (hk b o ho);rw [sortedHeap_old (ne_of_lt hb) (by rw [size_push'];exact Nat.lt_succ_of_lt hb)]
  exact Heap.get?_push_of_some _ (hk b o ho)
 ·cases e':s.heap.get? h'.objs.size with
  | none=>rfl
  | some o=>exact absurd (Heap.lt_size (hk _ o e')) (Nat.lt_irrefl _)
end
theorem qk {h:Heap} {O:List Addr} {M:Addr->Prop}:∀ {vs:List Value} {ms:List Nat},am h O M vs (ms.map fun (m:Nat)=>.int (m:Int))->vs.length = ms.length /\ ∀ (i:Nat) v,vs[i]? = some v->ms.getD i 0 ∈ ms /\ ∃ t,v = .int (ms.getD i 0:Int) t
 | [],[],_=>⟨rfl,fun i v e=>by simp at e⟩
 | v :: vs,m :: ms,.cons d r=>by
  obtain ⟨h1,h2⟩:=qk r;refine ⟨by simp [h1],fun i u e=>?_⟩
  cases d with | int _ t=>
  cases i with
  | zero=>simp at e;subst e;exact ⟨by simp,t,rfl⟩
  | succ i=>
   obtain ⟨q,t',e'⟩:=h2 i u (by simpa using e)
   exact ⟨by simpa using .inr q,t',by simpa using e'⟩
theorem qB (hW:Wok W T) {np np' pos pos':Pos} {e:Expr} {ms:List Nat} (hs:Glb W env "sorted" (.builtin "sorted")) (ht:Glb W env "set" (.type "set")) (he:EVP W T n env μ e (.list (ms.map fun (m:Nat)=>.int (m:Int))))
  (h3:∀ x ∈ ms,x < 3) (hall:∀ x,x < 3->x ∈ ms) (hst:autoParam (starEach [e] env = [(false,eval e env)]) rfT):EVP W T n env μ (.Call (.Name "sorted" np) [.Call (.Name "set" np') [e] [] pos'] [] pos) (.list [.int 0,.int 1,.int 2]):=by
 refine .of ?_;intro A s vm O M r k F V Q E q;refine Call_Name1 (bT hW k.gd F hs ?_) rfl
 refine aO rfl rfl (Calls.evalArgs_plain (Calls.spliced_cons ?_))
 refine Call_Name1 (bT hW k.gd F ht ?_) hst
 refine aO rfl rfl (Calls.evalArgs_plain (Calls.spliced_cons ?_))
 refine he.run A s vm O M r k F V _ _ fun v h1 t1 l1 s1 d1=>?_
 induction d1 using lE with
 | list pl hnm dl=>
  obtain ⟨hl,hv⟩:=qk dl;refine Calls.spliced_nil (zx (ms:=ms) r.handled pl.isList (fun i v e=>⟨h3 _ (hv i v e).1,(hv i v e).2⟩) hl fun h2 t2 ps hS hps hk2 l2=>?_)
  obtain ⟨o,ep,ho,hex,hd,hin⟩:=hS;obtain ⟨u0,u1,u2,rfl⟩:=hin.full fun x hx=>(hps x).mpr (hall x hx)
  refine Calls.spliced_nil (xr (s:={ s with heap:=h2,toks:=t2 }) r.handled ⟨o,ho,hex,hd⟩ fun h4 t4 D out hk4 hD pD iD l4=>?_)
  have kp:∀ b o,h1.get? b = some o->h4.get? b = some o:=fun b o e=>hk4 b o (hk2 b o (Heap.lt_size e) e)
  have nD:h1.get? D = none:=by
   cases e:h1.get? D with
   | none=>rfl
   | some o=>have:=hk2 D o (Heap.lt_size e) e;rw [hD] at this;cases this
  refine q _ h4 t4 (Nat.le_trans l1 (Nat.le_trans l2 l4)) (s1.trans (.of hW s1.gd kp)) (.list pD (fun m=>?_) (qy iD))
  obtain ⟨o,e⟩:=Option.isSome_iff_exists.mp ((k.step l1 s1).live D m).2;rw [show h1.get? D = some o from e] at nD
  cases nD
end
noncomputable def c9 (texts:List (List Nat)) (text:List Nat) (place:Nat):List (List Nat):=
 (texts.filter fun one=>decide (one.take place = text.take place) && (decide (place < one.length) && true)).map fun one=>[one.getD place 0]
noncomputable def kF (kind:List (List (List Nat))) (texts:List (List Nat)) (text:List Nat) (place:Nat):List (List (List Nat)):=
 kind.filter fun signs=>!decide ((c9 texts text place).filter (fun s=>decide (s ∈ signs)) = [])
noncomputable def em (kind:List (List (List Nat))) (texts:List (List Nat)) (text:List Nat) (ca:List (List Nat)) (place:Nat):Bool:=
 (((kF kind texts text place).length:Int) == 3) && (!decide ((kind.filter fun signs=>decide ([text.getD place 0] ∈ signs)) = []) && (!decide (text ∈ ca) && true))
noncomputable def bD (kind:List (List (List Nat))) (texts:List (List Nat)) (text:List Nat) (ca:List (List Nat)) (place:Nat):List (List Nat):=if em kind texts text ca place then ca ++ [text] else ca
noncomputable def e7 (kind:List (List (List Nat))) (texts:List (List Nat)) (ca:List (List Nat)) (text:List Nat):List (List Nat):=(List.range text.length).foldl (bD kind texts text) ca
noncomputable def aU (kind:List (List (List Nat))) (texts:List (List Nat)):List (List Nat):=texts.foldl (e7 kind texts) []
theorem jA (kind:List (List (List Nat))) (texts:List (List Nat)) (text:List Nat) (ca:List (List Nat)) (place:Nat) (h:aG ca) (ht:text.length <= 4 /\ (∀ c ∈ text,c < 55296) /\ text ≠ []) :
  aG (bD kind texts text ca place) /\ (bD kind texts text ca place).length <= ca.length + 1:=by
 unfold bD;split
 ·refine ⟨fun t hm=>?_,by simp⟩
  rcases List.mem_append.mp hm with hm | hm
  ·exact h t hm
  ·rw [List.mem_singleton.mp hm];exact ht
 ·exact ⟨h,le_succ _⟩
theorem gE (kind:List (List (List Nat))) (texts:List (List Nat)) (text:List Nat) (ht:text.length <= 4 /\ (∀ c ∈ text,c < 55296) /\ text ≠ []):∀ (l:List Nat) (ca:List (List Nat)),aG ca->
  aG (l.foldl (bD kind texts text) ca) /\ (l.foldl (bD kind texts text) ca).length <= ca.length + l.length
 | [],ca,h=>⟨h,Nat.le_refl _⟩
 | p :: l,ca,h=>by
  obtain ⟨a,b⟩:=jA kind texts text ca p h ht;obtain ⟨c,d⟩:=gE kind texts text ht l _ a;refine ⟨c,?_⟩
  rw [length_cons];exact Nat.le_trans d (by omega)
theorem zZ (a b:List Nat):(S a == S b) = decide (a = b):=by
 by_cases h:a = b
 ·subst h;simp
 ·rw [decide_eq_false h];exact beq_eq_false_iff_ne.mpr fun q=>h (oY q)
theorem tK (a b:Nat):decide ((a:Int) < (b:Int)) = decide (a < b):=by
 by_cases h:a < b
 ·rw [decide_eq_true h,decide_eq_true (by omega)]
 ·rw [decide_eq_false h,decide_eq_false (by omega)]
theorem fD (a b:List (List Nat)):(D.list (a.map ag)).eqv (.list (b.map ag)) = decide (a = b):=(eX ag fK a b).trans (decide_eq_decide.mpr Iff.rfl)
variable {P:Params}
theorem ro (l:List Nat) (h:k < l.length):l[((k:Int)).toNat]? = some (l.getD k 0):=by rw [Int.toNat_natCast,bc l 0 h]
theorem vx (xs:List (List (List Nat))):(D.list (xs.map fun c=>.list (c.map ag))).eqv (.list []) = decide (xs = []):=(eX (fun c:List (List Nat)=>D.list (c.map ag)) fD xs []).trans (decide_eq_decide.mpr Iff.rfl)
theorem ku:∀ l:List (List (List Nat)),(D.list (l.map fun c=>.list (c.map ag))).nr = true
 | []=>rfl
 | i :: l=>by
  have:=ku l;rw [D.nr] at this ⊢;rw [map_cons,D.nrL,this,D.nr,cR];rfl
noncomputable abbrev j8 (kind:List (List (List Nat))):D:=.list (kind.map fun c=>.list (c.map ag))
set_option maxHeartbeats 0 in
theorem uG (hW:Wok W T) (hK:W.K = hd.heap_39 P) (kind:List (List (List Nat))) (texts:List (List Nat)) (hkc:∀ c ∈ kind,∀ s ∈ c,fO s) (hkl:kind.length <= 10) (ht:aG texts) (hl:texts.length <= 5) :
  FP W T 3 (.ref 217) [j8 kind,.list (texts.map ag)] (.list ((aU kind texts).map ag)):=by
 refine dH hW (by rw [hK];with_unfolding_all rfl) rfl (by rw [hK];with_unfolding_all rfl) rfl rfl rfl (names:=[Str.ofString "kind",Str.ofString "texts"]) (vs2 fun _ _=>rfl) (by decide +kernel) (by decide +kernel) ?_ ?_ ?_ (fun L=>?_) (Θ':=[.gone])
 ·rw [D.nrL,D.nrL,D.nrL,ku kind];rw [D.nr,cR];rfl
 ·rfl
 ·rw [D.nr];exact cR _
 refine ae (cL hW (cm hW ak (by decide)) rfl rfl) ?_
 refine ae (dJ (bw hW (aa rfl rfl) rfl)
  (dm ag (e7 kind texts) (fun ca=>[.mlist (ca.map ag)]) (fun k ca=>aG ca /\ ca.length + 4 * k <= 20) texts [] (fun ca t k hm hi=>⟨?_,_,_,ay hW rfl,?_,aJ (x:=Str.ofString "text") (d:=ag t) rfl⟩) ⟨(fun _ h=>nomatch h),by simp;omega⟩) rfl) ?_
 ·obtain ⟨a,b⟩:=gE kind texts t (ht t hm) (List.range t.length) ca hi.1;refine ⟨a,?_⟩
  have:=(ht t hm).1;rw [length_range] at b;exact Nat.le_trans (Nat.add_le_add_right b _) (by omega)
 ·have tok:=ht t hm;obtain ⟨tl,tc,tn⟩:=tok;refine ae (dJ (ITR.eq (dS hW (cO hK rfl) (a7 hW (ck hK rfl) (af (aa rfl rfl) ak) (mh (by omega)) rfl) (by omega) (by omega) rfl) (fU t.length))
   (dm (fun i:Nat=>.int (i:Int)) (bD kind texts t) (fun ca=>[.mlist (ca.map ag)]) (fun j ca=>aG ca /\ ca.length + j + 4 * k <= 20) (List.range t.length) ca (fun ca p j hp hi=>⟨?_,_,_,ay hW rfl,?_,
    bx (bx (aJ (x:=Str.ofString "place") (d:=.int (p:Int)) rfl) (x:=Str.ofString "nexts") (d:=.list ((c9 texts t p).map ag)) (.inr rfl)) (x:=Str.ofString "met") (d:=j8 (kF kind texts t p)) (.inr rfl)⟩) ?_) rfl) ar
  ·obtain ⟨a,b⟩:=jA kind texts t ca p hi.1 ⟨tl,tc,tn⟩;exact ⟨a,by omega⟩
  ·have hp':p < t.length:=List.mem_range.mp hp;have fin1:∀ c ∈ kind,cV 1 (.list (c.map ag)):=fun c hc=>aH (hkc c hc)
   have nexOk:∀ s ∈ c9 texts t p,fO s:=fun s hs=>by
    unfold c9 at hs;obtain ⟨one,ho,rfl⟩:=List.mem_map.mp hs;obtain ⟨hm1,hm2⟩:=List.mem_filter.mp ho;have hlt:p < one.length:=by simp at hm2;exact hm2.2
    intro x hx;rw [List.mem_singleton.mp hx];exact ht.cp one hm1 _ (aF one p 0 hlt)
   refine ae (b6 hW (EVP.eq (EVF.ev (bW hW (is:=texts) (g:=ag) (fun one=>upd (seen _ _) (Str.ofString "one") (ag one)) (fun one=>decide (one.take p = t.take p) && (decide (p < one.length) && true)) (fun one=>ag [one.getD p 0]) (bw hW (aa rfl rfl) rfl) (cc rfl rfl rfl rfl) (fun _ _ _=>rfl)
    (fun L q _=>ay hW rfl) (fun q _=>aJ rfl) (fun L one ho=>bK (TST.eq (aR (au (iG hW (aa rfl rfl) (aa rfl rfl) (by have:=(ht one ho).1;omega)) (iG hW (aa rfl rfl) (aa rfl rfl) (by omega)) sq) (fun _=>aR (au (a7 hW (ck hK rfl) (af (aa rfl rfl) ak) (mh (by have:=(ht one ho).1;omega)) rfl) (aa rfl rfl) bU) fun _=>ci)) (by rw [zZ,tK])))
    (fun L one ho hpd=>iF (aa rfl rfl) (aa rfl rfl) (Int.natCast_nonneg p) (ro one (by simp at hpd;exact hpd.2)) (by have:=(ht one ho).1;omega)) (by omega))) (b':=.list ((c9 texts t p).map ag)) (by rw [c9,map_map];rfl)) rfl rfl) ?_
   refine ae (kg hW (is:=kind) (g:=fun c=>.list (c.map ag)) (fun c=>upd (seen _ _) (Str.ofString "signs") (.list (c.map ag))) (fun c=>!decide ((c9 texts t p).filter (fun s=>decide (s ∈ c)) = [])) (fun c=>.list (c.map ag)) (bw hW (aa rfl rfl) rfl) (cc rfl rfl rfl rfl) (fun _ _ _=>rfl)
    (fun L q _=>ay hW rfl) (fun q _=>aJ rfl) (fun L c hc=>bK (TST.eq (au (EVF.ev (bW hW (is:=c9 texts t p) (g:=ag) (fun s=>upd (seen _ _) (Str.ofString "sign") (ag s)) (fun s=>decide (s ∈ c)) ag (bw hW (aa rfl rfl) rfl) (cc rfl rfl rfl rfl) (fun _ _ _=>rfl)
     (fun L q _=>ay hW rfl) (fun q _=>aJ rfl) (fun L' q hq=>bK (TST.eq (au (aa rfl rfl) (aa rfl rfl) (jV (a8 (nexOk q hq)).fine (fin1 c hc).fine)) (eE c q))) (fun L' q _ _=>aa rfl rfl) ?_)) (aY hW ak) (fu (aH (fun s hs=>nexOk s (List.mem_filter.mp hs).1)).fine (aH (ts:=[]) (fun _ h=>nomatch h)).fine)) (congrArg not (fD _ []))))
    (fun L c _ _=>aa rfl rfl) (by omega) rfl) ?_
   ·unfold c9;rw [length_map];exact Nat.le_trans (length_filter_le _ _) (by omega)
   have metLen:(kF kind texts t p).length <= 10:=Nat.le_trans (length_filter_le _ _) hkl;refine ae (gf (dW (x:=Str.ofString "caught") (i:=0) rfl rfl) (TST.eq (b':=em kind texts t ca p) (aR (au (a7 hW (ck hK rfl) (af (aa rfl rfl) ak) (cf (ds:=(kF kind texts t p).map fun c=>.list (c.map ag)) (by rw [length_map];omega)) rfl) aq dE)
    fun _=>aR (au (EVF.ev (bW hW (is:=kind) (g:=fun c=>.list (c.map ag)) (fun c=>upd (seen _ _) (Str.ofString "signs") (.list (c.map ag))) (fun c=>decide ([t.getD p 0] ∈ c)) (fun c=>.list (c.map ag)) (bw hW (aa rfl rfl) rfl) (cc rfl rfl rfl rfl) (fun _ _ _=>rfl)
     (fun L q _=>ay hW rfl) (fun q _=>aJ rfl) (fun L c hc=>bK (TST.eq (au (iF (aa rfl rfl) (aa rfl rfl) (Int.natCast_nonneg p) (ro t hp') (by omega)) (aa rfl rfl) (jV (a8 (fun x hx=>by rw [List.mem_singleton.mp hx];exact ht.cp t hm _ (aF t p 0 hp'))).fine (fin1 c hc).fine)) (eE c _)))
     (fun L c _ _=>aa rfl rfl) (by omega))) (aY hW ak) (fu (bF (m:=1) (fun d hd=>by obtain ⟨c,hc,rfl⟩:=List.mem_map.mp hd;exact fin1 c (List.mem_filter.mp hc).1)).fine (bF (m:=1) (ds:=[]) (fun _ h=>nomatch h)).fine))
    fun _=>aR (au (aa rfl rfl) (aa rfl rfl) (iy (a8 (ht.cp t hm)).fine (aH hi.1.cp).fine)) fun _=>ci)
    (by rw [em,eE,length_map,vx]))
    (fun hb=>ae (EX.eqT (fg hW (i:=0) rfl rfl (by rw [length_map];omega) (aa rfl rfl) rfl) (by rw [bD,if_pos hb,map_append];rfl)) ar)
    (fun hb=>EX.eqT ar (by rw [bD,if_neg (by rw [hb];exact Bool.false_ne_true)]))) ar
  ·exact ⟨hi.1,by rw [length_range];omega⟩
 exact aM (cy (dW (x:=Str.ofString "caught") (i:=0) rfl rfl) (aa rfl rfl)) rfl
theorem vZ {tgt2 iter2:Expr} {ifs2:List Expr} (it acc:Value) (env:Env) :
  compTurn (.ListComp elt [⟨tgt,iter,ifs,0⟩,⟨tgt2,iter2,ifs2,0⟩] scope cpos) 0 it acc env = cX (.ListComp elt [⟨tgt,iter,ifs,0⟩,⟨tgt2,iter2,ifs2,0⟩] scope cpos) 0 iter.pos tgt ifs (ic (.ListComp elt [⟨tgt,iter,ifs,0⟩,⟨tgt2,iter2,ifs2,0⟩] scope cpos) 1 iter2 env) it acc env:=by
 unfold compTurn cX ic;simp only [bind_assoc,pure_bind];rfl
theorem qm (hW:Wok W T) {ι κ:Type} {elt tgt iter tgt2 iter2:Expr} {ifs ifs2:List Expr} {scope:Scope} {cpos p2:Pos} {is:List ι} {g:ι->D} (μi:ι->Str->Option D) (pd:ι->Bool) (js:ι->List κ) (g2:κ->D) (μj:ι->κ->Str->Option D) (pd2:ι->κ->Bool) (f:ι->κ->D)
  (hi:ITR W T n env μ iter tgt (is.map g)) (sc:Sc scope env (dK tgt)) (h2own:(dK tgt2).all (fI scope) = true)
  (hf2:∀ L it acc,compTurn (.ListComp elt [⟨tgt,iter,ifs,0⟩,⟨tgt2,iter2,ifs2,0⟩] scope cpos) 1 it acc (ap scope env L) = cX (.ListComp elt [⟨tgt,iter,ifs,0⟩,⟨tgt2,iter2,ifs2,0⟩] scope cpos) 1 p2 tgt2 ifs2 (c7 elt (ap scope env L)) it acc (ap scope env L))
  (ha:∀ L i,i ∈ is->ASG W T n (ap scope env L) tgt (g i) (seen scope μ) (μi i)) (hsub:∀ i,i ∈ is->bS (seen scope μ) (μi i)) (ht:∀ L i,i ∈ is->gV W T n (ap scope env L) (μi i) ifs (pd i))
  (hi2:∀ L i,i ∈ is->pd i = true->ITR W T n (ap scope env L) (μi i) iter2 tgt2 ((js i).map g2))
  (ha2:∀ L i,i ∈ is->∀ j,j ∈ js i->ASG W T n (ap scope env L) tgt2 (g2 j) (μi i) (μj i j)) (hsub2:∀ i,i ∈ is->∀ j,j ∈ js i->bS (μi i) (μj i j)) (ht2:∀ L i,i ∈ is->∀ j,j ∈ js i->gV W T n (ap scope env L) (μj i j) ifs2 (pd2 i j))
  (he:∀ L i,i ∈ is->∀ j,j ∈ js i->pd2 i j = true->EVP W T n (ap scope env L) (μj i j) elt (f i j)) (hlen:((is.filter pd).flatMap fun i=>((js i).filter (pd2 i)).map (f i)).length <= 10000) (hs:autoParam (∀ x,foldedSetIterable iter env x = pure x) r1T) (hs2:autoParam (∀ L x,foldedSetIterable iter2 (ap scope env L) x = pure x) r2T) :
  EVF W T n env μ (.ListComp elt [⟨tgt,iter,ifs,0⟩,⟨tgt2,iter2,ifs2,0⟩] scope cpos) ((is.filter pd).flatMap fun i=>((js i).filter (pd2 i)).map (f i)):=by
 refine qa hW hi sc (act:=fun L=>ic (.ListComp elt [⟨tgt,iter,ifs,0⟩,⟨tgt2,iter2,ifs2,0⟩] scope cpos) 1 iter2 (ap scope env L)) (fun L it acc=>vZ it acc _) (fun L=>?_) hlen hs
 refine iO (W:=W) (T:=T) (n:=n) (Own:=dQ scope env L) (env:=ap scope env L) g μi pd (fun i=>((js i).filter (pd2 i)).map (f i)) is (ha L) hsub (ht L) (fun i hi' hp=>?_)
 refine uh hW (g:=⟨tgt2,iter2,ifs2,0⟩) (.lst ..) rfl rfl rfl (hf2 L) (fun a ⟨x,hx,q⟩=>⟨x,List.all_eq_true.mp h2own x hx,q⟩) (fun a f=>f.fx) (hi2 L i hi' hp) ?_ (hs2 L)
 have:=iO (W:=W) (T:=T) (n:=n) (Own:=dQ scope env L) (env:=ap scope env L) (act:=c7 elt (ap scope env L)) g2 (μj i) (pd2 i) (fun j=>[f i j]) (js i) (ha2 L i hi') (hsub2 i hi') (ht2 L i hi') (fun j hj hp=>jf hW (he L i hi' j hj hp))
 rw [eH] at this;exact this
noncomputable def aQ (kind:List (List (List Nat))) (ring:List (List Nat)) (p:Nat):List Nat:=ring.flatMap fun t=>(List.range kind.length).filter fun k=>decide ((t.drop p).take (p + 1 - p) ∈ kind.getD k [])
structure qA (ring:List (List Nat)) (kind:List (List (List Nat))) (texts:List (List Nat)) (ahead:List (List (List Nat))) (p:Nat):Prop where
 len:2 <= ring.length /\ ring.length <= 10
 ok:aG ring
 ends:ring.getD 0 [] = ring.getD (ring.length - 1) []
 once:∀ t ∈ ring,(ring.drop 1).countP (fun y=>decide (y = t)) = 1
 sub:∀ t ∈ ring,t ∈ texts
 al:ahead.length = texts.length
 aok:∀ l ∈ ahead,aG l
 step:∀ k,1 <= k->k < ring.length->ring.getD (k - 1) [] ∈ ahead.getD (texts.idxOf (ring.getD k [])) []
 plt:p < 4
 pin:cM (ring.map fun t=>S (t.take p)) = 1
 pmax:∀ k,k < 4->cM (ring.map fun t=>S (t.take k)) = 1->k <= p
 mlen:(aQ kind ring p).length = ring.length
 m3:∀ x ∈ aQ kind ring p,x < 3
 mall:∀ x,x < 3->x ∈ aQ kind ring p
 mstep:∀ k,1 <= k->k < (aQ kind ring p).length->(((aQ kind ring p).getD k 0:Int) - ((aQ kind ring p).getD (k - 1) 0:Int)) % 3 ≠ 2
theorem wX (a b:Int):(a != b) = decide (a ≠ b):=by by_cases h:a = b <;> simp [h]
theorem sf (l:List (List Nat)) (t:List Nat) (k:Nat):(((l.map ag).drop k).countP fun y=>y.eqv (ag t)) = (l.drop k).countP fun y=>decide (y = t):=by
 rw [<- map_drop,List.countP_map];congr 1
 funext y
 exact fK y t
noncomputable def ups (n:Nat):List Nat:=(List.range (n - 1)).map fun i=>i + 1
theorem yu (n:Nat) (h:1 <= n):rng 1 (n:Int) = (ups n).map fun (i:Nat)=>.int (i:Int):=by
 unfold rng ups;rw [map_map];have:((n:Int) - 1).toNat = n - 1:=by omega
 rw [this];refine map_congr_left fun i _=>?_
 show D.int (1 + (i:Int)) = .int ((i + 1:Nat):Int);congr 1;omega
theorem i9 (h:k ∈ ups n):1 <= k /\ k < n:=by
 unfold ups at h;obtain ⟨i,hi,rfl⟩:=List.mem_map.mp h;have:=List.mem_range.mp hi;omega
theorem oQ {row:List (List Nat)} {t:List Nat} (h:t ∈ row):(row.map ag).findIdx? (fun y=>y.eqv (ag t)) = some (row.idxOf t):=by
 rw [List.findIdx?_map];have:((fun y:D=>y.eqv (ag t)) ∘ ag) = fun x:List Nat=>x == t:=by
  funext x
  show (ag x).eqv (ag t) = _;rw [fK];by_cases e:x = t <;> simp [e]
 rw [this];exact List.findIdx?_eq_some_iff_findIdx_eq.mpr ⟨List.idxOf_lt_length_iff.mpr h,rfl⟩
theorem xe (l:List Nat):(l.map fun (k:Nat)=>D.int (k:Int)) = (l.map fun (k:Nat)=>(k:Int)).map .int:=by rw [map_map];rfl
theorem nN (kind:List (List (List Nat))) (ring:List (List Nat)) (p:Nat):((ring.filter fun _=>true).flatMap fun t=>((List.range kind.length).filter fun k=>decide ((t.drop p).take (p + 1 - p) ∈ kind.getD k [])).map fun (k:Nat)=>D.int (k:Int)) = (aQ kind ring p).map fun (m:Nat)=>.int (m:Int):=by
 unfold aQ;rw [List.map_flatMap,List.filter_eq_self.mpr (fun _ _=>rfl)]
set_option maxHeartbeats 0 in
theorem xa (hW:Wok W T) (hK:W.K = hd.heap_39 P) (ring:List (List Nat)) (kind:List (List (List Nat))) (texts:List (List Nat)) (ahead:List (List (List Nat))) (p:Nat) (R:qA ring kind texts ahead p)
  (hkc:∀ c ∈ kind,∀ s ∈ c,fO s) (hkl:kind.length <= 10) (ht:aG texts) (hl:texts.length <= 5) :
  FP W T 3 (.ref 222) [.list (ring.map ag),j8 kind,.list (texts.map ag),j8 ahead] (.bool true):=by
 have fR:cU (.list (ring.map ag)):=(aH R.ok.cp).fine;have fT:cU (.list (texts.map ag)):=(aH ht.cp).fine;have l10:=R.len.2;have l2:=R.len.1;refine dH hW (by rw [hK];with_unfolding_all rfl) rfl (by rw [hK];with_unfolding_all rfl) rfl rfl rfl (names:=[Str.ofString "ring",Str.ofString "kind",Str.ofString "texts",Str.ofString "ahead"]) (vs4 fun _ _ _ _=>rfl) (by decide +kernel) (by decide +kernel) ?_ ?_ rfl (fun L=>?_) (Θ':=[])
 ·rw [D.nrL,D.nrL,D.nrL,D.nrL,D.nrL,ku kind,ku ahead];rw [D.nr,D.nr,cR,cR];rfl
 ·rfl
 refine ae (gf (be.refl _ _) (b:=false) ?_ (fun z=>nomatch z) (fun _=>ar)) ?_
 ·have e0:(ring.map ag)[(0:Int).toNat]? = some (ag (ring.getD 0 [])):=by
   rw [getElem?_map];show (ring[0]?).map ag = _;rw [bc ring [] (by omega)];rfl
  have eL:(ring.map ag).getLast? = some (ag (ring.getD (ring.length - 1) [])):=by
   rw [List.getLast?_eq_getElem?,length_map,getElem?_map,bc ring [] (by omega)];rfl
  refine TST.eq (iV (au (bC (aa rfl rfl) (by decide) e0 (by decide)) (wS (aa rfl rfl) (qh aq) eL) sv)
   fun _=>iV (au (EVF.ev (bW hW (is:=ring) (g:=ag) (fun t=>upd (seen _ _) (Str.ofString "text") (ag t)) (fun t=>decide (((ring.drop 1).countP (fun y=>decide (y = t)):Int) ≠ 1)) ag (bw hW (aa rfl rfl) rfl) (cc rfl rfl rfl rfl) (fun _ _ _=>rfl) (fun L q _=>ay hW rfl) (fun q _=>aJ rfl)
    (fun L' t htm=>bK (TST.eq (au (fk (rx hW (aa rfl rfl) aq (by rw [length_map];omega)) (aa rfl rfl) (oN (by rw [<- map_drop];exact (aH fun u hu=>R.ok.cp u (List.mem_of_mem_drop hu)).fine) (a8 (R.ok.cp t htm)).fine) PySem.F.plainAttrs_list PySem.F.slot_list_count PySem.F.type_list_count (fun _ _ _ _ d=>d.ty_list)) aq jx) ?_)) (fun L' t _ _=>aa rfl rfl) (by omega))) (aY hW ak) (fu ?_ (aH (ts:=[]) (fun _ h=>nomatch h)).fine)) fun _=>jw) ?_
  ·rw [sf];exact wX _ _
  ·exact (aH fun u hu=>R.ok.cp u (List.mem_filter.mp hu).1).fine
  ·have f0:(ring.filter fun t=>decide (((ring.drop 1).countP (fun y=>decide (y = t)):Int) ≠ 1)) = []:=by
    rw [filter_eq_nil_iff];intro t htm;rw [R.once t htm];simp
   rw [f0,R.ends];have:=fD [] [];simp only [map_nil] at this ⊢;rw [this];simp
 have idxR:∀ k,k < ring.length->texts.idxOf (ring.getD k []) < ahead.length:=fun k hk=>by
  rw [R.al];exact List.idxOf_lt_length_iff.mpr (R.sub _ (aF ring k [] hk))
 refine ae (gf (be.refl _ _) (b:=false) ?_ (fun z=>nomatch z) (fun _=>ar)) ?_
 ·refine TST.eq (au (EVF.ev (bW hW (is:=ups ring.length) (g:=fun (i:Nat)=>.int (i:Int)) (fun (i:Nat)=>upd (seen _ _) (Str.ofString "k") (.int (i:Int))) (fun k=>!decide (ring.getD (k - 1) [] ∈ ahead.getD (texts.idxOf (ring.getD k [])) [])) (fun k=>.int (k:Int))
   (ITR.eq (mI hW (cO hK rfl) aq (a7 hW (ck hK rfl) (af (aa rfl rfl) ak) (cf (by rw [length_map];omega)) rfl) (by decide) (by decide) (by omega) (by rw [length_map];omega) rfl) (by rw [length_map];exact yu ring.length (by omega))) (cc rfl rfl rfl rfl) (fun _ _ _=>rfl) (fun L i _=>ay hW rfl) (fun i _=>aJ rfl)
   (fun L' k hk=>?_) (fun L' k _ _=>aa rfl rfl) (by unfold ups;rw [length_map,length_range];omega))) (aY hW ak) (fu (bF (m:=0) fun d hd=>by obtain ⟨k,_,rfl⟩:=List.mem_map.mp hd;exact cu _).fine (bF (m:=0) (ds:=[]) (fun _ h=>nomatch h)).fine)) ?_
  ·obtain ⟨hk1,hk2⟩:=i9 hk;have a1:(ring.map ag)[((k:Int) - 1).toNat]? = some (ag (ring.getD (k - 1) [])):=by
    have:((k:Int) - 1).toNat = k - 1:=by omega
    rw [this,getElem?_map,bc ring [] (by omega)];rfl
   have a3:(ahead.map fun c=>D.list (c.map ag))[((texts.idxOf (ring.getD k []):Nat):Int).toNat]? = some (.list ((ahead.getD (texts.idxOf (ring.getD k [])) []).map ag)):=by
    rw [Int.toNat_natCast,getElem?_map,bc ahead [] (idxR k hk2)];rfl
   have i5:texts.idxOf (ring.getD k []) < 5:=by have:=idxR k hk2;rw [R.al] at this;omega
   exact bK (TST.eq (au (bZ (aa rfl rfl) (av (aa rfl rfl) aq gP) (by omega) a1 (by omega))
    (bZ (aa rfl rfl) (fk (aa rfl rfl) (bZ (aa rfl rfl) (aa rfl rfl) (Int.natCast_nonneg k) (nI ring hk2) (by omega)) (gD fT (a8 (R.ok.cp _ (aF ring k [] hk2))).fine (oQ (R.sub _ (aF ring k [] hk2))) (by rw [length_map];omega)) PySem.F.plainAttrs_list PySem.F.slot_list_index PySem.F.type_list_index (fun _ _ _ _ d=>d.ty_list)) (Int.natCast_nonneg _) a3 (by omega))
    (iy (a8 (R.ok.cp _ (aF ring (k - 1) [] (by omega)))).fine (aH (R.aok _ (aF ahead _ [] (idxR k hk2))).cp).fine)) (congrArg not (eE _ _)))
  ·have f0:((ups ring.length).filter fun k=>!decide (ring.getD (k - 1) [] ∈ ahead.getD (texts.idxOf (ring.getD k [])) [])) = []:=by
    rw [filter_eq_nil_iff];intro k hk;obtain ⟨hk1,hk2⟩:=i9 hk;rw [decide_eq_true (R.step k hk1 hk2)];exact Bool.false_ne_true
   rw [f0];have:=eX D.int iL [] [];simp only [map_nil] at this ⊢;rw [this];simp
 refine ae (b6 hW (d:=.int (p:Int)) (a7 hW (xt hK rfl) (af (EVF.ev (EVF.eq (bW hW (is:=List.range 4) (g:=fun (i:Nat)=>.int (i:Int)) (fun (i:Nat)=>upd (seen _ _) (Str.ofString "k") (.int (i:Int))) (fun k=>((cM (ring.map fun t=>S (t.take k)):Int) == 1)) (fun (k:Nat)=>.int (k:Int))
  (ITR.eq (dS hW (cO hK rfl) aq (by decide) (by decide) rfl) (fU 4)) (cc rfl rfl rfl rfl) (fun _ _ _=>rfl) (fun L i _=>ay hW rfl) (fun i _=>aJ rfl)
  (fun L' k hk=>bK (au (te hW (is:=ring) (g:=ag) (fun t=>upd (seen _ _) (Str.ofString "text") (ag t)) (fun t=>S (t.take k)) (ck hK rfl) (bw hW (aa rfl rfl) rfl) (cc rfl rfl rfl rfl) (fun _ _ _=>rfl) (fun L q _=>ay hW rfl) (fun q _=>aJ rfl)
   (fun L'' t htm=>iG hW (aa rfl rfl) (aa rfl rfl) (by have:=(R.ok t htm).1;omega)) (by omega)) aq dE)) (fun L' k _ _=>aa rfl rfl) (by decide)) (xe _))) ak) (yk hW ?_ ?_) rfl) rfl rfl) ?_
 ·refine List.mem_map.mpr ⟨p,List.mem_filter.mpr ⟨List.mem_range.mpr R.plt,?_⟩,rfl⟩
  rw [R.pin];rfl
 ·intro x hx;obtain ⟨k,hk,rfl⟩:=List.mem_map.mp hx;obtain ⟨h1,h2⟩:=List.mem_filter.mp hk;have:=R.pmax k (List.mem_range.mp h1) (by have:=eq_of_beq h2;omega)
  omega
 have cpw:∀ t ∈ ring,fO ((t.drop p).take (p + 1 - p)):=fun t htm c hc=>R.ok.cp t htm c (List.mem_of_mem_drop (List.mem_of_mem_take hc))
 refine ae (b6 hW (d:=.list ((aQ kind ring p).map fun (m:Nat)=>.int (m:Int))) (EVF.ev (EVF.eq (qm hW (is:=ring) (g:=ag) (fun t=>upd (seen _ _) (Str.ofString "text") (ag t)) (fun _=>true) (fun _=>List.range kind.length) (fun (k:Nat)=>.int (k:Int))
  (fun t k=>upd (upd (seen _ _) (Str.ofString "text") (ag t)) (Str.ofString "k") (.int (k:Int))) (fun t k=>decide ((t.drop p).take (p + 1 - p) ∈ kind.getD k [])) (fun _ k=>.int (k:Int))
  (bw hW (aa rfl rfl) rfl) (cc rfl rfl rfl rfl) rfl (fun _ _ _=>rfl) (fun L q _=>ay hW rfl) (fun q _=>aJ rfl) (fun L t _=>d9)
  (fun L t _ _=>ITR.eq (dS hW (cO hK rfl) (a7 hW (ck hK rfl) (af (aa rfl rfl) ak) (cf (by rw [length_map];omega)) rfl) (by rw [length_map];omega) (by rw [length_map];omega) rfl) (by rw [length_map];exact fU _))
  (fun L t _ k _=>ay hW rfl) (fun t _ k _=>aJ rfl) (fun L t htm k hk=>?_) (fun L t _ k _ _=>aa rfl rfl) ?_) ?_)) rfl) ?_
 ·have hk':=List.mem_range.mp hk;have a3:(kind.map fun c=>D.list (c.map ag))[((k:Nat):Int).toNat]? = some (.list ((kind.getD k []).map ag)):=by
   rw [Int.toNat_natCast,getElem?_map,bc kind [] hk'];rfl
  have:=(R.ok t htm).1;exact bK (TST.eq (au (mZ hW (aa rfl rfl) (aa rfl rfl) (EVP.eq (av (aa rfl rfl) aq bu) (by congr 1)) (le_succ p) (by omega))
   (bZ (aa rfl rfl) (aa rfl rfl) (Int.natCast_nonneg k) a3 (by omega)) (jV (a8 (cpw t htm)).fine (aH (hkc _ (aF kind k [] hk'))).fine)) (eE _ _))
 ·rw [nN,length_map,R.mlen];omega
 ·exact nN kind ring p
 have ml:=R.mlen;refine ae (gf (be.refl _ _) (b:=false) ?_ (fun z=>nomatch z) (fun _=>ar)) ?_
 ·refine TST.eq (iV (au (a7 hW (ck hK rfl) (af (aa rfl rfl) ak) (cf (by rw [length_map];omega)) rfl) (a7 hW (ck hK rfl) (af (aa rfl rfl) ak) (cf (by rw [length_map];omega)) rfl) jx)
   fun _=>iV (au (qB hW (l7 hK rfl) (rP hK rfl) (aa rfl rfl) R.m3 R.mall) (aY hW (af aq (af aq (af aq ak)))) (fu ?_ ?_)) fun _=>jw) ?_
  ·exact (bF (m:=0) fun d hd=>by rcases List.mem_cons.mp hd with rfl | hd;exact cu _;rcases List.mem_cons.mp hd with rfl | hd;exact cu _;rcases List.mem_cons.mp hd with rfl | hd;exact cu _;cases hd).fine
  ·exact (bF (m:=0) fun d hd=>by rcases List.mem_cons.mp hd with rfl | hd;exact cu _;rcases List.mem_cons.mp hd with rfl | hd;exact cu _;rcases List.mem_cons.mp hd with rfl | hd;exact cu _;cases hd).fine
  ·rw [length_map,length_map,ml];have:=eX D.int iL [0,1,2] [0,1,2];simp only [map_cons,map_nil] at this;rw [this];simp
 refine aM (cy (be.refl _ _) (EVP.eq (iR (EVF.ev (bW hW (is:=ups (aQ kind ring p).length) (g:=fun (i:Nat)=>.int (i:Int)) (fun (i:Nat)=>upd (seen _ _) (Str.ofString "k") (.int (i:Int))) (fun k=>((((aQ kind ring p).getD k 0:Int) - ((aQ kind ring p).getD (k - 1) 0:Int)) % 3 == 2)) (fun k=>.int (k:Int))
  (ITR.eq (mI hW (cO hK rfl) aq (a7 hW (ck hK rfl) (af (aa rfl rfl) ak) (cf (by rw [length_map];omega)) rfl) (by decide) (by decide) (by omega) (by rw [length_map];omega) rfl) (by rw [length_map];exact yu _ (by omega))) (cc rfl rfl rfl rfl) (fun _ _ _=>rfl) (fun L i _=>ay hW rfl) (fun i _=>aJ rfl)
  (fun L' k hk=>?_) (fun L' k _ _=>aa rfl rfl) (by unfold ups;rw [length_map,length_range];omega))) (aY hW ak) (mF (bF (m:=0) fun d hd=>by obtain ⟨k,_,rfl⟩:=List.mem_map.mp hd;exact cu _).fine (bF (m:=0) (ds:=[]) (fun _ h=>nomatch h)).fine)) ?_)) rfl
 ·obtain ⟨hk1,hk2⟩:=i9 hk;have at':∀ j:Nat,j < (aQ kind ring p).length->((aQ kind ring p).map fun (m:Nat)=>D.int (m:Int))[((j:Int)).toNat]? = some (.int ((aQ kind ring p).getD j 0:Int)):=fun j hj=>by
   rw [Int.toNat_natCast,getElem?_map,bc _ 0 hj];rfl
  have a1:((aQ kind ring p).map fun (m:Nat)=>D.int (m:Int))[((k:Int) - 1).toNat]? = some (.int ((aQ kind ring p).getD (k - 1) 0:Int)):=by
   have:=at' (k - 1) (by omega)
   have e:((k:Int) - 1).toNat = (((k - 1:Nat)):Int).toNat:=by omega
   rw [e];exact this
  exact bK (au (av (av (bZ (aa rfl rfl) (aa rfl rfl) (Int.natCast_nonneg k) (at' k hk2) (by omega)) (bZ (aa rfl rfl) (av (aa rfl rfl) aq gP) (by omega) a1 (by omega)) gP) aq (cg (by decide))) aq dE)
 ·have f0:((ups (aQ kind ring p).length).filter fun k=>((((aQ kind ring p).getD k 0:Int) - ((aQ kind ring p).getD (k - 1) 0:Int)) % 3 == 2)) = []:=by
   rw [filter_eq_nil_iff];intro k hk;obtain ⟨hk1,hk2⟩:=i9 hk;rw [beq_iff_eq];exact R.mstep k hk1 hk2
  rw [f0];have:=eX D.int iL [] [];simp only [map_nil] at this ⊢;rw [this];rfl
theorem sQ (he:EVP W T n env μ e d) (ha:ASG W T n env tgt d μ μ') (hs:autoParam (swapsWithSole [tgt] e pos.line env = pure false) rfT) (hw:autoParam (swappedStores [tgt] e env = pure none) rfT)
  (hass:autoParam ((assignEach [tgt] env).map (·.2) = [assign tgt env]) rfT):EX W T n env μ Θ (exec (.Assign [tgt] e pos) env) (.nxt μ' Θ):=by
 refine .of ?_;intro A s vm O M0 r t R Q E q;refine wpAny_Assign_stores (he.run A s vm O _ r (R.toRpH.ok t) R.fm R.vars _ _ fun v h1a tA lA st dv=>?_) hs hw
 rw [hass];show wpAny _ A (assign tgt env v) _ E _;refine (R.step st).asg ha r (Nat.le_trans t lA) dv fun vm' h' tk lB R' x=>?_
 exact q _ h' tk (Nat.le_trans lA lB) ⟨rfl,vm',O,R',(Nx.of st).trans x R.len⟩
theorem FMA.le {f:Value} {m:Nat} (h:FMA W T n fr f as Θ d Θ') (hm:n <= m):FMA W T m fr f as Θ d Θ':=
 .of fun A s O vals r hf t R V P q=>h.code A s O vals (r.le hm) hf t R V P q
theorem FMR.le {f:Value} {c:Addr} {m:Nat} (h:FMR W T n fr f as Θ c Θ') (hm:n <= m):FMR W T m fr f as Θ c Θ':=
 .of fun A s O vals r hf t R V P q=>h.code A s O vals (r.le hm) hf t R V P q
theorem tR (hK:W.K = hd.heap_39 P):io W.K 179 "prepare" 134:=by
 rw [hK];exact ⟨by with_unfolding_all rfl,by with_unfolding_all rfl,by with_unfolding_all rfl⟩
theorem rW (hK:W.K = hd.heap_39 P):io W.K 179 "get_ready" 141:=by
 rw [hK];exact ⟨by with_unfolding_all rfl,by with_unfolding_all rfl,by with_unfolding_all rfl⟩
theorem y7 (hK:W.K = hd.heap_39 P) (h:env.kindOf "TopologicalSorter" = some .globalImplicit):Glb W env "TopologicalSorter" (.ref 179):=.top h (by rw [hK];with_unfolding_all rfl)
theorem z1 (hK:W.K = hd.heap_39 P):keepIn W.K (.ref 179) = true:=by rw [hK];with_unfolding_all rfl
theorem EXA.sub {c:Sem Flow} (h:EXA W T n env out j0 μ Θ c (.nxt μ' Θ')) (hs:bS μ'' μ'):EXA W T n env out j0 μ Θ c (.nxt μ'' Θ'):=by
 refine .of ?_;intro A s vm O r kn t R Q E q;refine h.run A s vm O r kn t R Q E fun f h' tk le p=>q f h' tk le ?_
 obtain ⟨e,vm',O',R',x⟩:=p;exact ⟨e,vm',O',R'.sub hs,x⟩
noncomputable def fZ (N:Nat) (is:List ao):Bool:=decide (is.map (·.id)).Nodup && is.all fun i=>decide (i.id < N) && (i.succ.all fun j=>decide (j < N)) && (i.succ.all fun y=>(ixI is y).isSome) && decide (i.succ.length <= 100)
theorem lr (h:fZ N is = true):a9 N is /\ (∀ i ∈ is,∀ y ∈ i.succ,(ixI is y).isSome = true) /\ ∀ i ∈ is,i.succ.length <= 100:=by
 unfold fZ at h;rw [Bool.and_eq_true,List.all_eq_true] at h;obtain ⟨h1,h2⟩:=h;have h3:∀ i ∈ is,i.id < N /\ (∀ j ∈ i.succ,j < N) /\ (∀ y ∈ i.succ,(ixI is y).isSome = true) /\ i.succ.length <= 100:=fun i hi=>by
  have:=h2 i hi;simp only [Bool.and_eq_true,decide_eq_true_eq,List.all_eq_true] at this;exact ⟨this.1.1.1,this.1.1.2,this.1.2,this.2⟩
 exact ⟨⟨of_decide_eq_true h1,fun i hi=>(h3 i hi).1,fun i hi=>(h3 i hi).2.1⟩,fun i hi=>(h3 i hi).2.2.1,fun i hi=>(h3 i hi).2.2.2⟩
noncomputable def sF (is:List ao) (t:Nat):Bool:=match ixI is t with
 | some j=>(match is[j]? with
  | some i=>decide (i.np = -1)
  | none=>false)
 | none=>false
theorem xB (h:sF is t = true):∃ j i,ixI is t = some j /\ is[j]? = some i /\ i.np = -1:=by
 unfold sF at h;split at h
 ·rename_i j hj;split at h
  ·rename_i i hi;exact ⟨j,i,hj,hi,of_decide_eq_true h⟩
  ·cases h
 ·cases h
noncomputable def ln (N:Nat):Nat->List ao->List Nat->Option (List Nat)
 | 0,_,_=>none
 | _ + 1,is,[]=>if fZ N is then some [] else none
 | m + 1,is,[t]=>if fZ N is && sF is t && fZ N (aS is [] t).1 && ((aS is [] t).2.all fun u=>(ixI (aS is [] t).1 u).isSome) && decide ((aS is [] t).2.length <= 100) && decide ((aS is [] t).1.length = is.length) then (ln N m ((aS is [] t).2.foldl aX (aS is [] t).1) (aS is [] t).2).map (t :: ·) else none
 | _ + 1,_,_=>none
noncomputable def bR (texts:List (List Nat)) (j:Nat):Str:=S (texts.getD j [])
noncomputable def o3 (caught:List (List Nat)) (q:List Nat × List (List Nat)):Bool:=!decide (q.1 ∈ caught) && (decide (caught.filter (fun one=>decide (one ∈ q.2)) = []) && true)
noncomputable def eN (caught:List (List Nat)) (texts:List (List Nat)) (ahead:List (List (List Nat))):List (List Nat):=((texts.zip ahead).filter (o3 caught)).map (·.1)
structure sh (votes:List Int) (texts:List (List Nat)) (ps:Nat->List Nat) (is:List ao) (m:Nat) (res:Option (List Nat)) (hnd:List Nat):Prop where
 vok:iP votes
 tok:aG texts
 nd:texts.Nodup
 len:texts.length <= 5
 told:iZ votes texts = aP votes texts
 ahead:∀ i,i < texts.length->(aP votes texts).getD i [] = (ps i).map fun j=>texts.getD j []
 psn:∀ i,i < texts.length->∀ j ∈ ps i,j < texts.length
 psl:∀ i,i < texts.length->(ps i).length <= 5
 isE:is = (List.range texts.length).foldl (fun is i=>mT is i (ps i)) []
 ok:fZ texts.length is = true
 srch:dR (gc is) m (is.map (·.id)) ⟨[],[]⟩ = some res
 rnil:res = none ↔ aU (a6 (aw votes)) texts = []
 ring:∀ r,res = some r->∃ p,qA (r.map fun j=>texts.getD j []) (a6 (aw votes)) texts (aP votes texts) p
 rrun:ln texts.length 10 ((aB is).foldl aX is) (aB is) = some hnd
 fin:(hnd.map fun j=>texts.getD j []) = (List.range texts.length).flatMap fun (k:Nat)=>((texts.zip (aP votes texts)).filter fun q=>decide (q.1 ∈ eN (aU (a6 (aw votes)) texts) texts (aP votes texts)) && (((q.2.length:Int) == (k:Int)) && true)).map (·.1)
noncomputable def RET (W:Wd) (T:Heap->Prop) (n:Nat) (env:Env) (out:List Env) (j0:Nat) (μ:Str->Option D) (Θ:List ac) (c:Sem Flow) (d:D):Prop:=∃ G,EXA W T n env out j0 μ Θ c (.ret d ([.gone] ++ G))
theorem bo {st:Stmt} (h1:EXA W T n env out j0 μ Θ (exec st env) (.nxt μ' Θ')) (h2:RET W T n env out j0 μ' Θ' (execs rest env) d):RET W T n env out j0 μ Θ (execs (st :: rest) env) d:=
 let ⟨G,h⟩:=h2;⟨G,aE h1 h⟩
theorem yg {st1 st2:Stmt} {x:Str} (h:EXA W T n env out j0 μ Θ (exec st1 env) (.nxt (upd μ x (.bool true)) Θ))
  (hs:res = none->EXA W T n env out j0 (upd μ x (.bool true)) Θ (exec st2 env) (.nxt (upd μ x (.bool true)) Θ')) (hr:∀ r,res = some r->EXA W T n env out j0 (upd μ x (.bool true)) Θ (exec st2 env) (.nxt (upd (upd μ x (.bool true)) x (.bool false)) Θ'))
  (ht:RET W T n env out j0 (upd μ x (.bool res.isNone)) Θ' (execs rest env) d):RET W T n env out j0 μ Θ (execs (st1 :: st2 :: rest) env) d:=by
 refine bo h ?_
 cases res with
 | none=>exact bo (hs rfl) ht
 | some r=>exact bo ((hr r rfl).sub jW) ht
noncomputable def gU (tx:Nat->Str) (r:D) (is:List ao) (p f:Int) (hl:List Nat):List ac:=sT tx [.gone] is r p f [.gone,.mlist [],.mlist (hl.map fun t=>.tup [.str (tx t)])]
theorem iz:∀ (l:List Nat) (is:List ao),(l.foldl aX is).length = is.length
 | [],_=>rfl
 | t :: l,is=>by rw [foldl_cons,iz l,lf]
theorem ub {K:Nat} {r:D} {x:Str}
  (htest:∀ (is:List ao) (p f:Int) (hl fr:List Nat),fr.length <= 1->TSM W T n env (upd μ x (.tup (fr.map fun t=>.str (tx t)))) (gU tx r is p f hl) test (!fr.isEmpty) (upd μ x (.tup (fr.map fun t=>.str (tx t)))) (gU tx r is p f hl))
  (hbody:∀ (is:List ao) (p f:Int) (hl:List Nat) (t:Nat),is.length = K->fZ N is = true->sF is t = true->fZ N (aS is [] t).1 = true->(∀ u ∈ (aS is [] t).2,(ixI (aS is [] t).1 u).isSome = true)->(aS is [] t).2.length <= 100->(aS is [] t).1.length = K->hl.length <= 100->
   EXA W T n env out j0 (upd μ x (.tup ([t].map fun t=>.str (tx t)))) (gU tx r is p f hl) (execs body env) (.nxt (upd μ x (.tup ((aS is [] t).2.map fun t=>.str (tx t)))) (gU tx r ((aS is [] t).2.foldl aX (aS is [] t).1) (p + (aS is [] t).2.length) (f + 1) (hl ++ [t])))) :
  ∀ (m:Nat) (is:List ao) (p f:Int) (hl fr hnd:List Nat),is.length = K->hl.length + m <= 100->ln N m is fr = some hnd->(∀ is' p' f',is'.length = K->RET W T n env out j0 (upd μ x (.tup [])) (gU tx r is' p' f' (hl ++ hnd)) (execs rest env) d)->
   RET W T n env out j0 (upd μ x (.tup (fr.map fun t=>.str (tx t)))) (gU tx r is p f hl) (execs (.While test body [] pos :: rest) env) d:=by
 have key:∀ (m:Nat) (is:List ao) (p f:Int) (hl fr hnd:List Nat),is.length = K->hl.length + m <= 100->ln N m is fr = some hnd->∃ is' p' f',is'.length = K /\ WHA W T n env out j0 test body [] m (upd μ x (.tup (fr.map fun t=>.str (tx t)))) (gU tx r is p f hl) (.nxt (upd μ x (.tup [])) (gU tx r is' p' f' (hl ++ hnd))):=by
  intro m
  induction m with
  | zero=>intro is p f hl fr hnd _ _ h;cases (show none = some hnd from h)
  | succ m ih=>
   intro is p f hl fr hnd hk hm h;rcases fr with _ | ⟨t,_ | ⟨u,fr⟩⟩
   ·replace h:(if _ then _ else _) = some hnd:=h
    split at h
    ·cases h;refine ⟨is,p,f,hk,.stop (htest is p f hl [] (zero_le _)) ?_⟩
     rw [append_nil];exact EX.a ar
    ·cases h
   ·replace h:(if _ then _ else _) = some hnd:=h
    split at h
    ·rename_i hc;simp only [Bool.and_eq_true,decide_eq_true_eq,List.all_eq_true] at hc;obtain ⟨⟨⟨⟨⟨c1,c2⟩,c3⟩,c4⟩,c5⟩,c6⟩:=hc;obtain ⟨hnd',h',rfl⟩:=Option.map_eq_some_iff.mp h;obtain ⟨is',p',f',hk',w⟩:=ih ((aS is [] t).2.foldl aX (aS is [] t).1) (p + (aS is [] t).2.length) (f + 1) (hl ++ [t]) (aS is [] t).2 hnd' (by rw [iz,c6,hk]) (by rw [length_append,length_singleton];omega) h'
     rw [append_assoc,List.singleton_append] at w;exact ⟨is',p',f',hk',.turn (htest is p f hl [t] (Nat.le_refl _)) (hbody is p f hl t hk c1 c2 c3 c4 c5 (by rw [c6,hk]) (by omega)) w⟩
    ·cases h
   ·cases (show none = some hnd from h)
 intro m is p f hl fr hnd hk hm h ht;obtain ⟨is',p',f',hk',w⟩:=key m is p f hl fr hnd hk hm h;exact bo (iq w) (ht is' p' f' hk')
theorem pg {α:Type}:∀ {l:List α},l.Nodup->∀ {i j:Nat} (hi:i < l.length) (hj:j < l.length),l[i] = l[j]->i = j
 | a :: l,h,i,j,hi,hj,e=>by
  obtain ⟨h1,h2⟩:=List.nodup_cons.mp h
  cases i with
  | zero=>
   cases j with
   | zero=>rfl
   | succ j=>exact absurd (by rw [List.getElem_cons_zero,getElem_cons_succ] at e;rw [e];exact getElem_mem _) h1
  | succ i=>
   cases j with
   | zero=>exact absurd (by rw [List.getElem_cons_zero,getElem_cons_succ] at e;rw [<- e];exact getElem_mem _) h1
   | succ j=>rw [getElem_cons_succ,getElem_cons_succ] at e;rw [pg h2 _ _ e]
theorem kj (kind:List (List (List Nat))) (texts:List (List Nat)):∀ (l ca:List (List Nat)),aG ca->aG l->aG (l.foldl (e7 kind texts) ca) /\ (l.foldl (e7 kind texts) ca).length <= ca.length + 4 * l.length
 | [],ca,h,_=>⟨h,by simp⟩
 | t :: l,ca,h,hl=>by
  have ht:=hl t (.head _);obtain ⟨h1,h2⟩:=gE kind texts t ht (List.range t.length) ca h;obtain ⟨h3,h4⟩:=kj kind texts l _ h1 fun u hu=>hl u (.tail _ hu)
  rw [length_range] at h2;refine ⟨h3,?_⟩
  rw [length_cons];have:=ht.1;unfold e7 at h4 ⊢;simp only [foldl_cons];omega
theorem n8 {α β:Type} (f:α->List β) (B:Nat):∀ l:List α,(∀ a ∈ l,(f a).length <= B)->(l.flatMap f).length <= l.length * B
 | [],_=>by simp
 | a :: l,h=>by
  have:=n8 f B l fun b hb=>h b (.tail _ hb)
  have:=h a (.head _);rw [flatMap_cons,length_append,length_cons,Nat.succ_mul];omega
theorem ua {α β:Type} [Inhabited α] (f:α->β->D) (a:α) (b:β) (xs:List α) (ys:List β) (h:ys.length = xs.length):List.zipWith f xs ys = (List.range xs.length).map fun i=>f (xs.getD i a) (ys.getD i b):=by
 apply List.ext_getElem
 ·simp [h]
 ·intro i h1 h2;have hx:i < xs.length:=by simpa using h2
  simp [hx,h]
theorem qi (k:Nat):∀ c ∈ a6 k,∀ s ∈ c,fO s:=by
 have h:∀ k,k = 1 \/ k = 2->∀ c ∈ a6 k,∀ s ∈ c,∀ x ∈ s,x < 1114112:=by
  rintro k (rfl | rfl) <;> decide
 intro c hc s hs;by_cases h1:k = 1
 ·exact h k (.inl h1) c hc s hs
 by_cases h2:k = 2
 ·exact h k (.inr h2) c hc s hs
 have:a6 k = []:=by unfold a6;split <;> simp_all
 rw [this] at hc;cases hc
theorem n9 (k:Nat):(a6 k).length <= 10:=by
 unfold a6;split <;> decide
theorem wd (N:Nat):a9 N []:=⟨.nil,fun _ h=>(nomatch h),fun _ h=>(nomatch h)⟩
theorem SB.fold (t:Nat):∀ (ps:List Nat) {c:Nat} {is:List ao},SB c is->SB (c + ps.length) (ps.foldl (cG t) is)
 | [],_,_,h=>h
 | p :: ps,c,is,h=>by
  have:=SB.fold t ps (h.step t p);rw [foldl_cons,length_cons];have e:c + (ps.length + 1) = c + 1 + ps.length:=by omega
  rw [e];exact this
theorem SB.addI {c:Nat} {is:List ao} (h:SB c is) (t:Nat) (ps:List Nat):SB (c + ps.length) (mT is t ps):=
 SB.fold t ps ((h.getI t).mod fun i hi=>hi)
theorem vW {ps:List Nat} (ok:a9 N is) (ht:t < N) (hp:∀ p ∈ ps,p < N):a9 N (mT is t ps):=rR ht ps _ (lU ok ht _) hp
theorem uo {n N:Nat} {tgt:Expr} {body:List Stmt} {μ:Str->Option D} {tx:Nat->Str} {ps:Nat->List Nat} (g:Nat->D) (hps:∀ i,i < N->∀ j ∈ ps i,j < N) (hpl:∀ i,i < N->(ps i).length <= 5)
  (h:∀ is c i,a9 N is->SB c is->c + 5 <= 5000->i < N->∃ μ1,ASG W T n env tgt (g i) μ μ1 /\ EX W T n env μ1 (sT tx [.gone] is .none 0 0 []) (execs body env) (.nxt μ1 (sT tx [.gone] (mT is i (ps i)) .none 0 0 [])) /\ bS μ μ1) :
  ∀ (l:List Nat) (is:List ao) (c:Nat),a9 N is->SB c is->c + 5 * l.length <= 5000->(∀ i ∈ l,i < N)->LP W T n env tgt body (l.map g) μ (sT tx [.gone] is .none 0 0 []) (.nxt μ (sT tx [.gone] (l.foldl (fun is i=>Mine.mT is i (ps i)) is) .none 0 0 []))
 | [],_,_,_,_,_,_=>.nil
 | i :: l,is,c,ok,sb,hc,hl=>by
  rw [length_cons] at hc;have hi:=hl i (.head _);have:=hpl i hi;obtain ⟨μ1,a,e,s⟩:=h is c i ok sb (by omega) hi
  exact .cons a (e.sub s) (uo g hps hpl h l _ (c + (ps i).length) (vW ok hi (hps i hi)) (sb.addI i _) (by omega) fun j hj=>hl j (.tail _ hj))
variable {ps:Nat->List Nat}
set_option maxHeartbeats 0 in
theorem xO (hW:Wok W T) (hK:W.K = hd.heap_39 P) (lw:po W T 204) (hlp:W.lpos = ⟨227,38,227,137⟩) (hlq:W.lq = Str.ofString "_law_told.<locals>.<lambda>") (script:List Int) (hlen:script.length <= 1000)
  {m:Nat} {hnd:List Nat} (pl:sh (c8 (aD script)) (fE (aD script)) ps is m res hnd) :
  FMA W T 8 [] (.ref 227) [.list (script.map .int)] [] (.bool true) [.gone]:=by
 refine nv hW (by rw [hK];with_unfolding_all rfl) rfl (by rw [hK];with_unfolding_all rfl) rfl rfl rfl (names:=[Str.ofString "script"]) (df (vs1 fun _=>rfl)) (by decide +kernel) (by decide +kernel) (fun L=>⟨.ret (.bool true) [.gone],?_,.inl rfl⟩)
 suffices key:RET W T 7 _ [] 0 _ _ _ (.bool true) by
  obtain ⟨G,hG⟩:=key;exact EXA.ret_trunc hG rfl rfl (Nat.le_refl _)
 have hv5:=pl.vok.len;obtain ⟨a,b,c,d,e,hv⟩:∃ a b c d e,c8 (aD script) = [a,b,c,d,e]:=by
  obtain ⟨a,l,ee⟩:=List.exists_cons_of_length_eq_add_one hv5;rw [ee] at hv5 ⊢;obtain ⟨b,l,rfl⟩:=List.exists_cons_of_length_eq_add_one (Nat.succ.inj hv5);obtain ⟨c,l,rfl⟩:=List.exists_cons_of_length_eq_add_one (Nat.succ.inj (Nat.succ.inj hv5));obtain ⟨d,l,rfl⟩:=List.exists_cons_of_length_eq_add_one (Nat.succ.inj (Nat.succ.inj (Nat.succ.inj hv5)));obtain ⟨e,l,rfl⟩:=List.exists_cons_of_length_eq_add_one (Nat.succ.inj (Nat.succ.inj (Nat.succ.inj (Nat.succ.inj hv5))));obtain rfl:=List.eq_nil_of_length_eq_zero (Nat.succ.inj (Nat.succ.inj (Nat.succ.inj (Nat.succ.inj (Nat.succ.inj hv5)))));exact ⟨a,b,c,d,e,rfl⟩
 have h1:=(wm hW hK script hlen).le (show 3 <= 7 by decide)
 have h2:=(ve hW hK _ _ pl.vok pl.tok pl.len).le (show 3 <= 7 by decide)
 have h3:=(xQ hW hK a b c d e).le (show 2 <= 7 by decide)
 have h4:=(uG hW hK (a6 (aw (c8 (aD script)))) _ (qi _) (n9 _) pl.tok pl.len).le (show 3 <= 7 by decide)
 have h5:=(w9 hW hK lw hlp hlq _ _ pl.vok pl.tok pl.nd pl.len).le (show 4 <= 7 by decide)
 rw [pl.told] at h5;rw [<- hv] at h3;generalize c8 (aD script) = votes at *;generalize fE (aD script) = texts at *;have hal:(aP votes texts).length = texts.length:=by unfold aP;rw [length_map]
 have haok:∀ l ∈ aP votes texts,aG l:=fun l hl t ht=>by
  unfold aP at hl;obtain ⟨u,_,rfl⟩:=List.mem_map.mp hl;exact pl.tok t (List.mem_filter.mp ht).1
 have hA:=pl.ahead;generalize hah:aP votes texts = ahead at *;generalize hkd:a6 (aw votes) = kind at *;have fA:cU (j8 ahead):=(bF (m:=1) fun d hd=>by obtain ⟨l,hl,rfl⟩:=List.mem_map.mp hd;exact aH (haok l hl).cp).fine
 have hzip:fi (texts.map ag) (ahead.map fun l=>.list (l.map ag)) = (List.range texts.length).map (fun i=>.tup [.str (bR texts i),.list ((ps i).map fun j=>.str (bR texts j))]):=by
  unfold fi;rw [List.zipWith_map,ua (fun x y=>D.tup [ag x,.list (y.map ag)]) [] [] texts ahead hal]
  refine map_congr_left fun i hi=>?_
  rw [hA i (List.mem_range.mp hi),map_map];rfl
 have hT:cY (bR texts) texts.length:=fun i j hi hj e=>by
  have e':=oY e;have gi:texts.getD i [] = texts[i]:=by rw [getD_eq_getElem?_getD,List.getElem?_eq_getElem hi];rfl
  have gj:texts.getD j [] = texts[j]:=by rw [getD_eq_getElem?_getD,List.getElem?_eq_getElem hj];rfl
  rw [gi,gj] at e';exact pg pl.nd hi hj e'
 have iok:=lr pl.ok;have hn:texts.length <= 900:=by have:=pl.len;omega
 have hout:∀ (env:Env) vm r post,bI (sT (bR texts) [.mframe env vm] is r 0 0 post) [env]:=fun env vm r post e he=>⟨0,vm,by rw [List.mem_singleton.mp he];rfl⟩
 have hrd:∀ ds:List Nat,∀ k,(ac.mlist (ds.map fun j=>.str (bR texts j))).lo k = true:=fun ds k=>by
  show D.loL k (ds.map fun j=>.str (bR texts j)) = true
  induction ds with
  | nil=>rfl
  | cons a l ih=>rw [map_cons,D.loL,ih];rfl
 obtain ⟨fC,lC⟩:aG (aU kind texts) /\ (aU kind texts).length <= 100:=by
  obtain ⟨h1,h2⟩:=kj kind texts texts [] (fun _ h=>nomatch h) pl.tok
  exact ⟨h1,by have:=pl.len;unfold aU;simp only [length_nil] at h2;omega⟩
 have fB:∀ b:Bool,cU (.bool b):=fun b=>⟨rfl,by cases b <;> rfl,by cases b <;> decide⟩
 have eB:∀ a b:Bool,(D.bool a).eqv (.bool b) = (a == b):=by intro a b;cases a <;> cases b <;> rfl
 have hrn:(decide (aU kind texts = [])) = res.isNone:=by
  have:=pl.rnil;rw [hkd] at this
  cases res with
  | none=>rw [decide_eq_true (this.mp rfl)];rfl
  | some r=>rw [decide_eq_false (fun z=>by have:=this.mpr z;cases this)];rfl
 have hri:∀ t ∈ aB is,(ixI is t).isSome = true:=fun t ht=>by
  unfold aB at ht;obtain ⟨i,hi,rfl⟩:=List.mem_map.mp ht;unfold ixI;rw [List.findIdx?_isSome,List.any_eq_true];exact ⟨i.id,List.mem_map.mpr ⟨i,(List.mem_filter.mp hi).1,rfl⟩,decide_eq_true rfl⟩
 have hrl:(aB is).length <= 1000:=by
  have h1:=dU iok.1.nd (fun x hx=>by obtain ⟨i,hi,rfl⟩:=List.mem_map.mp hx;exact iok.1.lt i hi)
  rw [length_map] at h1;have h2:(aB is).length <= is.length:=by unfold aB;rw [length_map];exact length_filter_le _ _
  omega
 have cpx:∀ t,fO (texts.getD t []):=fun t=>by
  by_cases h:t < texts.length
  ·exact pl.tok.cp _ (aF texts t [] h)
  ·rw [getD_eq_getElem?_getD,List.getElem?_eq_none (by omega)];intro c hc;cases hc
 have mtx:∀ l:List Nat,(l.map fun t=>D.str (bR texts t)) = (l.map fun j=>texts.getD j []).map ag:=fun l=>by rw [map_map];rfl
 have fTup:∀ l:List Nat,cV 1 (.tup (l.map fun t=>.str (bR texts t))):=fun l=>ig fun d hd=>by
  obtain ⟨t,_,rfl⟩:=List.mem_map.mp hd;exact a8 (cpx t)
 have lT:(sT (bR texts) [.gone] is (rk [.gone] is 1) 0 0 [.gone,.mlist ((aB is).map fun j=>.str (bR texts j))]).length = [ac.gone].length + 3 + 3 * is.length + 2:=by rw [dF];rfl
 have hz:fi (texts.map ag) (ahead.map fun l=>.list (l.map ag)) = (texts.zip ahead).map fun q=>.tup [ag q.1,.list (q.2.map ag)]:=by
  unfold fi;rw [List.zipWith_map,List.map_zip_eq_zipWith];rfl
 have zA:∀ q ∈ texts.zip ahead,fO q.1 /\ aG q.2:=fun q hq=>⟨pl.tok.cp _ (of_mem_zip hq).1,haok _ (of_mem_zip hq).2⟩
 have fF:∀ t ∈ eN (aU kind texts) texts ahead,fO t:=fun t ht=>by
  unfold eN at ht;obtain ⟨q,hq,rfl⟩:=List.mem_map.mp ht;exact (zA q (List.mem_filter.mp hq).1).1
 refine bo (EX.a (sQ (bG hW (.top rfl (by rw [hK];with_unfolding_all rfl)) (by rw [hK];with_unfolding_all rfl) (af (aa rfl rfl) ak) h1) (eT hW rfl rfl))) ?_
 refine bo (EX.a (b6 hW (bG hW (.top rfl (by rw [hK];with_unfolding_all rfl)) (by rw [hK];with_unfolding_all rfl) (af (aa rfl rfl) (af (aa rfl rfl) ak)) h2) rfl)) ?_
 refine bo (EX.a (b6 hW (bG hW (.top rfl (by rw [hK];with_unfolding_all rfl)) (by rw [hK];with_unfolding_all rfl) (af (aa rfl rfl) ak) h3) rfl)) ?_
 unfold jj;rw [hkd];refine bo (EX.a (b6 hW (bG hW (.top rfl (by rw [hK];with_unfolding_all rfl)) (by rw [hK];with_unfolding_all rfl) (af (aa rfl rfl) (af (aa rfl rfl) ak)) h4) rfl)) ?_
 refine bo (d8 (b:=false) (fz (be.refl _ _) (TST.eq (au (aa rfl rfl) (bG hW (.top rfl (by rw [hK];with_unfolding_all rfl)) (by rw [hK];with_unfolding_all rfl) (af (aa rfl rfl) (af (aa rfl rfl) ak)) h5) (fu fA fA)) ?_)) (fun z=>nomatch z) (fun _=>EX.a ar)) ?_
 ·have:=eX (fun c:List (List Nat)=>D.list (c.map ag)) fD ahead ahead
  rw [this];simp
 refine bo (EX.a (aT hW (r8 hW (y7 hK rfl) (z1 hK) ((uA hW (zN hK) (uD hW hK _)).le (show 3 <= 7 by decide))) rfl)) ?_
 show RET W T 7 _ [] 0 (upd _ _ (.ref 2)) (sT (bR texts) [.gone] [] .none 0 0 []) _ _;refine bo (EX.a (dJ (ITR.eq (iW hW (iK hK rfl) (aa rfl rfl) (aa rfl rfl) rfl) hzip) (uo (ps:=ps) (N:=texts.length) _ pl.psn pl.psl (fun is c i ok sb hc hi=>⟨_,eT hW rfl rfl,?_,e9 rfl rfl⟩) (List.range texts.length) [] 0 (wd _) (fun _ h=>(nomatch h)) (by rw [length_range];have:=pl.len;omega) (fun i hi=>List.mem_range.mp hi)) rfl)) ?_
 ·refine ae (dz (q6 hW (bh hK) (zi hK) (zl hK) (zj hK) (ai (aa rfl rfl)) (aa rfl rfl) (aa rfl rfl) (by rw [length_map];have:=pl.psl i hi;omega) (co (pre:=[.gone])) (b9 (pre:=[.gone])) rfl
   (yF hW hK hT [.gone] is 0 0 i hi (by have:=pl.len;omega) ok (ps i) (pl.psn i hi) (by have:=pl.psl i hi;omega) c sb (by have:=pl.psl i hi;omega)))) ar
 rw [<- pl.isE];refine yg (res:=res) (Θ':=sT (bR texts) [.gone] is (rk [.gone] is 1) 0 0 [.gone,.mlist ((aB is).map fun j=>.str (bR texts j))]) (EX.a (b6 hW rr rfl)) (fun hn0=>qY (aE (v5 (gg (d:=.none) hW (bh hK) (tR hK) (ai (aa rfl rfl)) (co (pre:=[.gone])) (b9 (pre:=[.gone])) rfl rfl rfl rfl (fun vm=>?_))) (EX.a ar)))
  (fun r hr=>qZ (bb:=false) hW hK (bh hK) (tR hK) (ai (aa rfl rfl)) (co (pre:=[.gone])) (b9 (pre:=[.gone])) rfl rfl rfl (fun e he=>nomatch he) (rf hK rfl) rfl (fun vm=>?_)) ?_
 ·exact (wx hW hK hT [.mframe _ vm] is 0 0 [] iok.1 hn iok.2.1 (hout _ _ _ _) (hn0 ▸ pl.srch) rfl rfl).le (by decide)
 ·obtain ⟨p,R⟩:=pl.ring r hr;have:=R.len;rw [length_map] at this;exact (vP hW hK hT [.mframe _ vm] is 0 0 [] iok.1 hn iok.2.1 (hout _ _ _ _) (hr ▸ pl.srch) (by omega) (fun z=>by rw [z] at this;exact absurd this.1 (by decide)) rfl rfl).le (by decide)
 refine bo (jo hW (gg (d:=ir (bR texts) res) (Θ':=sT (bR texts) [.gone] is (rk [.gone] is 1) 0 0 [.gone,.mlist ((aB is).map fun j=>.str (bR texts j))]) hW (bh hK) (vi hK) (ai (aa rfl rfl)) (co (pre:=[.gone])) (b9 (pre:=[.gone])) rfl rfl rfl (pR _ _)
  (fun vm=>(qC hW hK hT [.mframe _ vm] is (rk [.gone] is 1) 0 0 [.gone,.mlist ((aB is).map fun j=>.str (bR texts j))] iok.1 hn iok.2.1 (hout _ _ _ _) pl.srch ?_ ?_ ?_).le (by decide))) rfl) ?_
 ·rfl
 ·exact decide_eq_true (by show [ac.gone].length + 3 + 3 * is.length + 1 < [ac.mframe _ vm].length + 3 + 3 * is.length + 2;simp only [length_singleton];omega)
 ·rw [all_cons,all_cons,hrd];rfl
 refine bo (d8 (b:=false) (fz (be.refl _ _) (TST.eq (iV (au (aa rfl rfl) (iR (aa rfl rfl) (aY hW ak) (mF (aH fC.cp).fine (aH (ts:=[]) (fun _ h=>nomatch h)).fine)) (fu (fB _) (fB _)))
  fun _=>iV (au (aa rfl rfl) (iR (aa rfl rfl) cH dM) (fu (fB _) (fB _))) fun _=>jw) ?_)) (fun z=>nomatch z) (fun _=>EX.a ar)) ?_
 ·have h1:=fD (aU kind texts) [];rw [map_nil] at h1;rw [h1,eB,eB,hrn];cases res <;> rfl
 refine bo (d8 (b:=false) (fz (be.refl _ _) ?_) (fun z=>nomatch z) (fun _=>EX.a ar)) ?_
 ·cases hr:res with
  | none=>exact TST.eq (aR (c:=true) (ny (jt (aa rfl rfl))) (fun z=>absurd z (by decide))) rfl
  | some r=>
   obtain ⟨p,R⟩:=pl.ring r hr;rw [hkd,hah] at R;have e:(r.map fun j=>D.str (bR texts j)) = (r.map fun j=>texts.getD j []).map ag:=by rw [map_map];rfl
   exact TST.eq (aR (ny (jt (aa rfl rfl))) (fun _=>aR (ny (jt (bG hW (.top rfl (by rw [hK];with_unfolding_all rfl)) (by rw [hK];with_unfolding_all rfl)
    (af (EVP.eq (aa rfl rfl) (congrArg D.list e)) (af (aa rfl rfl) (af (aa rfl rfl) (af (aa rfl rfl) ak))))
    ((xa hW hK _ kind texts ahead p R (hkd ▸ qi _) (hkd ▸ n9 _) pl.tok pl.len).le (by decide))))) fun _=>ci)) rfl
 refine bo (EXA.nxtT (EX.a (cL hW (cm hW ak (by decide)) rfl rfl)) (Θ'':=sT (bR texts) [.gone] is (rk [.gone] is 1) 0 0 [.gone,.mlist ((aB is).map fun j=>.str (bR texts j)),.mlist []]) (by unfold sT;simp [append_assoc])) ?_
 refine bo (EX.a (aT hW (k9 hW (bh hK) (rW hK) (ai (aa rfl rfl)) (co (pre:=[.gone])) (b9 (pre:=[.gone])) rfl ((pe hW hK hT [.gone] is 0 0 [.gone,.mlist ((aB is).map fun j=>.str (bR texts j)),.mlist []] 1 (aB is) iok.1 rfl hri hrl).le (by decide))) rfl)) ?_
 rw [lT];refine ub (N:=texts.length) (K:=is.length) (tx:=bR texts) (r:=rk [.gone] is 1) (fun is' p f hl fr hf=>?_) (fun is' p f hl t hk c1 c2 c3 c4 c5 c6 hhl=>?_) 10 ((aB is).foldl aX is) (0 + ((aB is).length:Int)) 0 [] (aB is) hnd (iz _ _) (by decide) pl.rrun (fun is' p' f' hk'=>?_)
 ·refine fz (be.refl _ _) (TST.eq (au (aa rfl rfl) (hV hW ak) (fu (fTup fr).fine (ig (m:=0) (ds:=[]) (fun _ h=>nomatch h)).fine)) ?_)
  have:=nz ag fK (fr.map fun j=>texts.getD j []) []
  rw [map_nil,<- mtx] at this;rw [this];cases fr <;> simp
 ·obtain ⟨ok',hsu',hsl'⟩:=lr c1;obtain ⟨ok2,hsu2,hsl2⟩:=lr c3;obtain ⟨j,i,hj,hi,hnp⟩:=xB c2;have him:=mem_of_getElem? hi;have er:rk [.gone] is 1 = rk [.gone] is' 1:=by show D.ref _ = .ref _;rw [hk]
  have er2:rk [.gone] is' 1 = rk [.gone] (aS is' [] t).1 1:=by show D.ref _ = .ref _;rw [hk,c6]
  unfold gU;rw [er,<- hk];have lo1:∀ (ds:List Nat) k,(ac.mlist (ds.map fun t=>.tup [.str (bR texts t)])).lo k = true:=fun ds k=>by
   show D.loL k (ds.map fun t=>.tup [.str (bR texts t)]) = true
   induction ds with
   | nil=>rfl
   | cons a l ih=>rw [map_cons,D.loL,ih];rfl
  refine aE (EXA.nxtT (EX.a (dz (fq hW (ai (aa rfl rfl)) (ai (aa rfl rfl)) (cF 2) (cF 2) (by rw [length_map];omega)))) (Θ'':=sT (bR texts) [.gone] is' (rk [.gone] is' 1) p f [.gone,.mlist [],.mlist ((hl ++ [t]).map fun t=>.tup [.str (bR texts t)])]) (by rw [dC,map_append];rfl)) ?_
  refine aE (EX.a (dz (q0 hW (bh hK) (yp hK) (yH hK) (yU hK) (ai (aa rfl rfl)) (aa rfl rfl) (by show 1 <= 1000;decide) (co (pre:=[.gone])) (b9 (pre:=[.gone])) rfl
   ((wT hW hK hT [.gone] is' p f [.gone,.mlist [],.mlist ((hl ++ [t]).map fun t=>.tup [.str (bR texts t)])] 1 [] t j i ok' rfl hj hi hnp (hsu' i him) (by have:=hsl' i him;simp only [length_nil];omega) rfl (by rw [all_cons,all_cons,all_cons,lo1];rfl)).le (by decide))))) ?_
  rw [er2];exact aE (EX.a (aT hW (k9 hW (bh hK) (rW hK) (ai (aa rfl rfl)) (co (pre:=[.gone])) (b9 (pre:=[.gone])) rfl ((pe hW hK hT [.gone] (aS is' [] t).1 p (f + 1) _ 1 (aS is' [] t).2 ok2 rfl c4 (by omega)).le (by decide))) rfl)) (EX.a (ar.sub jW))
 refine bo (EX.a (b6 hW (d:=.list ((eN (aU kind texts) texts ahead).map ag)) (EVF.ev (EVF.eq (bW hW (is:=texts.zip ahead) (g:=fun q=>.tup [ag q.1,.list (q.2.map ag)]) (fun q=>upd (upd (seen _ _) (Str.ofString "text") (ag q.1)) (Str.ofString "before") (.list (q.2.map ag))) (o3 (aU kind texts)) (fun q=>ag q.1)
  (ITR.eq (iW hW (iK hK rfl) (aa rfl rfl) (aa rfl rfl) rfl) hz) (cc rfl rfl rfl rfl) (fun _ _ _=>rfl) (fun L q _=>eT hW rfl rfl) (fun q _=>e9 rfl rfl) (fun L' q hq=>?_) (fun L' q _ _=>aa rfl rfl) ?_) ?_)) rfl)) ?_
 ·obtain ⟨hq1,hq2⟩:=zA q hq;refine bK (TST.eq (aR (au (aa rfl rfl) (aa rfl rfl) (iy (a8 hq1).fine (aH fC.cp).fine)) fun _=>aR (au (EVF.ev (bW hW (is:=aU kind texts) (g:=ag) (fun t=>upd (seen _ _) (Str.ofString "one") (ag t)) (fun t=>decide (t ∈ q.2)) ag (bw hW (aa rfl rfl) rfl) (cc rfl rfl rfl rfl) (fun _ _ _=>rfl) (fun L t _=>ay hW rfl) (fun t _=>aJ rfl)
   (fun L'' t ht=>bK (TST.eq (au (aa rfl rfl) (aa rfl rfl) (jV (a8 (fC.cp t ht)).fine (aH hq2.cp).fine)) (eE _ _))) (fun L'' t _ _=>aa rfl rfl) (by omega))) (aY hW ak) (mF (aH fun u hu=>fC.cp u (List.mem_filter.mp hu).1).fine (aH (ts:=[]) (fun _ h=>nomatch h)).fine)) fun _=>ci) ?_)
  have h1:=fD ((aU kind texts).filter fun one=>decide (one ∈ q.2)) []
  rw [map_nil] at h1;rw [h1,eE];rfl
 ·rw [length_zip];have:=pl.len;omega
 ·unfold eN;rw [map_map];rfl
 have hlh:(gU (bR texts) (rk [.gone] is 1) is' p' f' ([] ++ hnd))[[ac.gone].length + 3 + 3 * is.length + 2]? = some (.mlist (hnd.map fun t=>.tup [.str (bR texts t)])):=by
  rw [<- hk'];unfold gU;rw [cF];rfl
 refine ⟨_,bn (EX.a (cy (dW (x:=Str.ofString "handed") rfl hlh) (EVP.eq (iR (aa rfl rfl) (EVF.ev (qm hW (is:=List.range texts.length) (g:=fun (k:Nat)=>.int (k:Int)) (fun (k:Nat)=>upd (seen _ _) (Str.ofString "k") (.int (k:Int))) (fun _=>true) (fun _=>texts.zip ahead) (fun q=>.tup [ag q.1,.list (q.2.map ag)])
  (fun k q=>upd (upd (upd (seen _ _) (Str.ofString "k") (.int (k:Int))) (Str.ofString "text") (ag q.1)) (Str.ofString "before") (.list (q.2.map ag))) (fun k q=>decide (q.1 ∈ eN (aU kind texts) texts ahead) && (((q.2.length:Int) == (k:Int)) && true)) (fun _ q=>.tup [ag q.1])
  (ITR.eq (dS hW (cO hK rfl) (a7 hW (ck hK rfl) (af (aa rfl rfl) ak) (cf (ds:=texts.map ag) (by rw [length_map];omega)) rfl) (by rw [length_map];omega) (by rw [length_map];omega) rfl) (by rw [length_map];exact fU _)) (cc rfl rfl rfl rfl) rfl (fun _ _ _=>rfl) (fun L k _=>ay hW rfl) (fun k _=>aJ rfl) (fun L k _=>d9)
  (fun L k _ _=>ITR.eq (iW hW (iK hK rfl) (aa rfl rfl) (aa rfl rfl) rfl) hz) (fun L k _ q _=>eT hW rfl rfl) (fun k _ q _=>e9 rfl rfl) (fun L k _ q hq=>?_) (fun L k _ q _ _=>hV hW (af (aa rfl rfl) ak) (by show 1 <= 1000;decide)) ?_)) (mF ?_ ?_)) ?_))) rfl⟩
 ·obtain ⟨hq1,hq2⟩:=zA q hq;refine bK (TST.eq (aR (au (aa rfl rfl) (aa rfl rfl) (jV (a8 hq1).fine (aH fF).fine)) fun _=>aR (au (a7 hW (ck hK rfl) (af (aa rfl rfl) ak) (cf (ds:=q.2.map ag) ?_) rfl) (aa rfl rfl) dE) fun _=>ci) ?_)
  ·obtain ⟨i,hi⟩:=List.getElem?_of_mem (of_mem_zip hq).2;have hi':i < texts.length:=by rw [<- hal];exact (List.getElem?_eq_some_iff.mp hi).1
   have e:=hA i hi';rw [getD_eq_getElem?_getD,hi] at e;have e':q.2 = (ps i).map fun j=>texts.getD j []:=e
   rw [length_map,e',length_map];have:=pl.psl i hi';omega
  ·rw [eE,length_map]
 ·refine Nat.le_trans (n8 _ 5 _ fun k _=>?_) ?_
  ·rw [length_map];refine Nat.le_trans (length_filter_le _ _) ?_
   rw [length_zip];have:=pl.len;omega
  ·have h1:=length_filter_le (fun _=>true) (List.range texts.length)
   rw [length_range] at h1;have:=pl.len;omega
 ·exact (bF (m:=1) fun d hd=>by
   obtain ⟨t,_,rfl⟩:=List.mem_map.mp hd;exact fTup [t]).fine
 ·exact (bF (m:=1) fun d hd=>by
   obtain ⟨k,_,hd⟩:=List.mem_flatMap.mp hd;obtain ⟨q,hq,rfl⟩:=List.mem_map.mp hd;exact ig fun d hd=>by
    rw [List.mem_singleton] at hd;subst hd;exact a8 (zA q (List.mem_filter.mp hq).1).1).fine
 ·have fin:=pl.fin;rw [hkd,hah] at fin;have e1:(hnd.map fun t=>D.tup [.str (bR texts t)]) = (hnd.map fun j=>texts.getD j []).map fun t=>.tup [ag t]:=by rw [map_map];rfl
  have e2:(((List.range texts.length).filter fun _=>true).flatMap fun (k:Nat)=>((texts.zip ahead).filter fun q=>decide (q.1 ∈ eN (aU kind texts) texts ahead) && (((q.2.length:Int) == (k:Int)) && true)).map fun q=>D.tup [ag q.1])
    = ((List.range texts.length).flatMap fun (k:Nat)=>((texts.zip ahead).filter fun q=>decide (q.1 ∈ eN (aU kind texts) texts ahead) && (((q.2.length:Int) == (k:Int)) && true)).map (·.1)).map fun t=>.tup [ag t]:=by
   rw [List.filter_eq_self.mpr (fun _ _=>rfl),List.map_flatMap]
   refine congrArg (fun f=>List.flatMap f (List.range texts.length)) (funext fun k=>?_)
   rw [map_map];rfl
  rw [e1,e2,<- fin,eX (fun t=>D.tup [ag t]) (fun x y=>by
   have:=nz ag fK [x] [y];rw [List.map_singleton,List.map_singleton] at this;rw [this];exact decide_eq_decide.mpr ⟨fun e=>by cases e;rfl,fun e=>by rw [e]⟩)]
  rw [decide_eq_true rfl]
noncomputable def fS (l:List Bool) (j i:Nat):Bool:=if j < i then l.getD (i * (i - 1) / 2 + j) false else if i < j then !l.getD (j * (j - 1) / 2 + i) false else false
noncomputable def hU (n:Nat) (b:Nat->Nat->Bool) (i:Nat):List Nat:=(List.range n).filter fun j=>b j i
noncomputable def in3 (n:Nat) (b:Nat->Nat->Bool) (i:Nat):Bool:=(List.range n).any fun j=>b i j && (List.range n).any fun k=>b j k && b k i
noncomputable def o0 (n:Nat) (b:Nat->Nat->Bool) (i:Nat):Bool:=!in3 n b i && (hU n b i).all fun j=>!in3 n b j
noncomputable def mU (n:Nat) (b:Nat->Nat->Bool):List Nat:=(List.range n).flatMap fun k=>(List.range n).filter fun i=>o0 n b i && (hU n b i).length == k
noncomputable def oV (n:Nat) (b:Nat->Nat->Bool) (r:List Nat):Bool:=
 decide (4 <= r.length) && decide (r.length <= 6) && r.all (· < n) && (r.head? == r.getLast?) && decide (r.drop 1).Nodup && ((r.zip (r.drop 1)).all fun p=>b p.1 p.2)
noncomputable def isT (n:Nat) (b:Nat->Nat->Bool):List ao:=(List.range n).foldl (fun is i=>mT is i (hU n b i)) []
noncomputable def iC (n:Nat) (b:Nat->Nat->Bool):Bool:=
 fZ n (isT n b) && (match dR (gc (isT n b)) 40 ((isT n b).map (·.id)) ⟨[],[]⟩ with
  | some none=>(List.range n).all fun i=>!in3 n b i
  | some (some r)=>(List.range n).any (in3 n b) && oV n b r
  | none=>false) &&
 (match ln n 10 ((aB (isT n b)).foldl aX (isT n b)) (aB (isT n b)) with
  | some h=>h == mU n b
  | none=>false)
theorem zJ (l:List Bool):iC 0 (fS l) = true:=rfl
theorem zW (l:List Bool):iC 1 (fS l) = true:=rfl
theorem zH:∀ a:Bool,iC 2 (fS [a]) = true:=by decide +kernel
theorem zL:∀ a b c:Bool,iC 3 (fS [a,b,c]) = true:=by decide +kernel
theorem zY:∀ a b c d e f:Bool,iC 4 (fS [a,b,c,d,e,f]) = true:=by decide +kernel
set_option maxHeartbeats 0 in
theorem zO:∀ a b c d e f g h i j:Bool,iC 5 (fS [a,b,c,d,e,f,g,h,i,j]) = true:=by
 intro a b c d e;cases a <;> cases b <;> cases c <;> cases d <;> cases e <;> decide +kernel
theorem ls {P:Nat->Prop} (h:∀ i,i < k->P i) (hk:P k) (i:Nat) (hi:i < k + 1):P i:=(Nat.lt_succ_iff_lt_or_eq.mp hi).elim (h i) fun e=>e ▸ hk
theorem l0 {P:Nat->Prop} (i:Nat) (hi:i < 0):P i:=absurd hi (Nat.not_lt_zero i)
theorem nn {a:Nat} {p:Prop} (e:Nat.ble n a = true) (h:a < n):p:=absurd h (not_lt_of_le (le_of_ble_eq_true e))
theorem oi {α β:Type} {f:α->β} {l:List α} (h:l.Nodup) (inj:∀ a ∈ l,∀ b ∈ l,f a = f b->a = b):(l.map f).Nodup:=
 List.pairwise_map.mpr (h.imp_of_mem fun ha hb n e=>n (inj _ ha _ hb e))
theorem i0 {l:List (List Nat)} (nd:l.Nodup) (hi:i < l.length) (hj:j < l.length) (e:l.getD i [] = l.getD j []):i = j:=by
 have gi:=bc l [] hi;rw [e,<- bc l [] hj] at gi;exact (List.getElem?_inj hi nd).mp gi
noncomputable def aK (k c:Nat):Nat:=if c ∈ aA.getD k [] then 304 + bv.idxOf c else 8 * c
noncomputable def tlt (p:Nat->Nat):List Nat->List Nat->Bool
 | [],[]=>false
 | [],_ :: _=>true
 | _ :: _,[]=>false
 | a :: t,b :: u=>if a = b then tlt p t u else decide (p a < p b)
theorem oW (p:Nat->Nat) (a b:Nat) (t u:List Nat):tlt p (a :: t) (b :: u) = if a = b then tlt p t u else decide (p a < p b):=rfl
theorem vM (a b:Nat) (h:a ≠ b):decide (a < b) = !decide (b < a):=by
 rw [<- decide_not];exact decide_eq_decide.mpr ⟨lt_asymm,fun z=>Nat.lt_of_le_of_ne (Nat.le_of_not_lt z) h⟩
theorem gq (h:k < 5):aA.getD k [] ∈ aA:=aF aA k [] h
theorem in7 {c:Nat} (h:k < 5) (hc:c ∈ aA.getD k []):c ∈ bv:=(il _ (gq h)).2 c hc
theorem wH (h:k < 5):38 ∈ aA.getD k []:=(il _ (gq h)).1
theorem uw {c:Nat} (h:c ∈ bv):bv.idxOf c < 7:=List.idxOf_lt_length_iff.mpr h
theorem kG (h:k < 5) (c:Nat):((aK k c:Nat):Int) = 8 * (cx (aA.getD k []) c).1 + (cx (aA.getD k []) c).2 /\ 0 <= (cx (aA.getD k []) c).2 /\ (cx (aA.getD k []) c).2 < 8:=by
 unfold aK cx;by_cases hc:c ∈ aA.getD k []
 ·rw [if_pos hc,if_pos hc];exact ⟨rfl,Int.natCast_nonneg _,Int.ofNat_lt.mpr (Nat.lt_succ_of_lt (uw (in7 h hc)))⟩
 ·rw [if_neg hc,if_neg hc];exact ⟨rfl,Int.le_refl _,show (0:Int) < 8 by decide⟩
theorem gn (h:k < 5) {a b:Nat} (e:aK k a = aK k b):a = b:=by
 obtain ⟨e1,l1,u1⟩:=kG h a;obtain ⟨e2,l2,u2⟩:=kG h b;rw [e,e2] at e1;clear e2 e;refine ly (gq h) ?_
 generalize cx (aA.getD k []) a = p at *;generalize cx (aA.getD k []) b = q at *;have z:p.1 = q.1:=by omega
 exact Prod.ext z (by rw [z] at e1;exact (Int.add_left_cancel e1).symm)
theorem lK (h:k < 5) (a b:Nat):bX (cx (aA.getD k []) a) (cx (aA.getD k []) b) = decide (aK k a < aK k b):=by
 obtain ⟨e1,l1,u1⟩:=kG h a;obtain ⟨e2,l2,u2⟩:=kG h b;unfold bX;generalize cx (aA.getD k []) a = p at *;generalize cx (aA.getD k []) b = q at *;generalize aK k a = m at *;generalize aK k b = n at *;by_cases c:p.1 = q.1
 ·rw [if_pos c];refine decide_eq_decide.mpr ?_
  rw [<- Int.ofNat_lt,e1,e2,c];exact (Int.add_lt_add_iff_left _).symm
 ·rw [if_neg c];refine decide_eq_decide.mpr ?_
  rw [<- Int.ofNat_lt,e1,e2];clear e1 e2;exact ⟨fun z=>by omega,fun z=>by omega⟩
theorem rp {k:Nat} (h:k < 5):∀ t u:List Nat,ltP (bj (aA.getD k []) t) (bj (aA.getD k []) u) = tlt (aK k) t u
 | [],[]=>rfl
 | [],_ :: _=>rfl
 | _ :: _,[]=>rfl
 | a :: t,b :: u=>by
  show (if cx _ a = cx _ b then ltP (bj _ t) (bj _ u) else bX _ _) = _
  rw [oW];by_cases e:a = b
  ·rw [if_pos e,if_pos (congrArg _ e),rp h t u]
  ·rw [if_neg e,if_neg (fun z=>e (ly (gq h) z)),lK h]
theorem rq (p:Nat->Nat):∀ t,tlt p t t = false
 | []=>rfl
 | a :: t=>(if_pos rfl).trans (rq p t)
theorem nq {k:Nat} (h:k < 5):∀ {t u:List Nat},t ≠ u->tlt (aK k) t u = !tlt (aK k) u t
 | [],[],e=>absurd rfl e
 | [],_ :: _,_=>rfl
 | _ :: _,[],_=>rfl
 | a :: t,b :: u,e=>by
  rw [oW,oW];by_cases z:a = b
  ·rw [if_pos z,if_pos z.symm];exact nq h fun q=>e (by rw [z,q])
  ·rw [if_neg z,if_neg (Ne.symm z)];exact vM _ _ fun q=>z (gn h q)
noncomputable def dG (k:Nat):List (Nat × List Nat):=[iX,jb,dL,cJ,ky].getD k []
theorem ri (t:List Nat) (h:k < 5):(a5 t).getD k [] = aI (dG k) t:=by
 rcases lt5 k h with rfl | rfl | rfl | rfl | rfl <;> rfl
theorem mO (r:Nat × List Nat) (rs:List (Nat × List Nat)) (t:List Nat):aI (r :: rs) t = aI rs (t.flatMap (sub r.1 r.2)):=rfl
theorem wv (r:List (Nat × List Nat)) (t u:List Nat):aI r (t ++ u) = aI r t ++ aI r u:=by
 induction r generalizing t u with
 | nil=>rfl
 | cons r rs ih=>rw [mO,mO,mO,List.flatMap_append,ih]
theorem lH (r:List (Nat × List Nat)):aI r [] = []:=by
 induction r with
 | nil=>rfl
 | cons r rs ih=>exact ih
theorem xq (c:Nat) (r:List (Nat × List Nat)) (h:∀ x ∈ r,x.1 ≠ c):aI r [c] = [c]:=by
 induction r with
 | nil=>rfl
 | cons r rs ih=>
  have e:sub r.1 r.2 c = [c]:=if_neg (h r (.head _)).symm;rw [mO,List.flatMap_singleton,e];exact ih fun x hx=>h x (.tail _ hx)
noncomputable def fdl:List Nat->List Nat->Option Bool
 | [],_=>none
 | _ :: _,[]=>none
 | a :: x,b :: y=>if a = b then fdl x y else some (decide (a < b))
theorem uZ (x X Y:List Nat):decide (x ++ X < x ++ Y) = decide (X < Y):=by
 induction x with
 | nil=>rfl
 | cons a x ih=>
  rw [<- ih];exact decide_eq_decide.mpr (List.cons_lt_cons_iff.trans ⟨fun z=>z.elim (fun q=>absurd q (Nat.lt_irrefl _)) (·.2),fun z=>.inr ⟨rfl,z⟩⟩)
theorem tY {b:Bool} (X Y:List Nat):∀ {x y:List Nat},fdl x y = some b->decide (x ++ X < y ++ Y) = b
 | [],_,h=>nomatch h
 | _ :: _,[],h=>nomatch h
 | a :: x,c :: y,h=>by
  replace h:(if a = c then fdl x y else some (decide (a < c))) = some b:=h
  by_cases e:a = c
  ·rw [if_pos e] at h;rw [<- tY X Y h,e];exact uZ [c] _ _
  ·rw [if_neg e] at h;rw [<- Option.some.inj h];exact decide_eq_decide.mpr (List.cons_lt_cons_iff.trans ⟨fun z=>z.elim id (fun q=>absurd q.1 e),.inl⟩)
theorem yn:∀ k,k < 5->∀ a ∈ aA.getD k [],∀ b ∈ aA.getD k [],a ≠ b->fdl (aI (dG k) [a]) (aI (dG k) [b]) = some (decide (aK k a < aK k b)):=by decide +kernel
theorem pS:∀ k,k < 5->∀ a ∈ aA.getD k [],∃ s,aI (dG k) [a] = 38 :: s:=by
 have h:∀ k,k < 5->∀ a ∈ aA.getD k [],(aI (dG k) [a]).head? = some 38:=by decide +kernel
 exact fun k hk a ha=>List.head?_eq_some_iff.mp (h k hk a ha)
theorem u5:∀ k,k < 5->∀ x ∈ dG k,x.1 ∈ aA.getD k []:=by decide +kernel
theorem lR (h:k < 5) {c:Nat} (hc:c ∉ aA.getD k []):aI (dG k) [c] = [c]:=xq c _ fun x hx e=>hc (e ▸ u5 k h x hx)
theorem fd1 {a b:Nat} (h:a ≠ b) (s t:List Nat) (x y:Int):fdl (a :: s) (b :: t) = some (bX ((a:Nat),x) ((b:Nat),y)):=by
 show (if a = b then fdl s t else some (decide (a < b))) = some (if (a:Int) = (b:Int) then decide (x < y) else decide ((a:Int) < (b:Int)))
 rw [if_neg h,if_neg fun z:(a:Int) = (b:Int)=>h (Int.ofNat.inj z)]
 exact congrArg some (decide_eq_decide.mpr Int.ofNat_lt.symm)
theorem yM (h:k < 5) {a b:Nat} (hne:a ≠ b):fdl (aI (dG k) [a]) (aI (dG k) [b]) = some (decide (aK k a < aK k b)):=by
 by_cases ha:a ∈ aA.getD k []
 ·by_cases hb:b ∈ aA.getD k []
  ·exact yn k h a ha b hb hne
  ·obtain ⟨s,e⟩:=pS k h a ha;rw [e,lR h hb,<- lK h];unfold cx;rw [if_pos ha,if_neg hb];exact fd1 (a:=38) (b:=b) (fun z=>hb (z ▸ wH h)) _ _ _ _
 ·rw [lR h ha,<- lK h];by_cases hb:b ∈ aA.getD k []
  ·obtain ⟨s,e⟩:=pS k h b hb;unfold cx;rw [e,if_neg ha,if_pos hb];exact fd1 (a:=a) (b:=38) (fun z=>ha (z ▸ wH h)) _ _ _ _
  ·unfold cx;rw [lR h hb,if_neg ha,if_neg hb];exact fd1 hne _ _ _ _
theorem ip (r:List (Nat × List Nat)) (a:Nat) (t:List Nat):aI r (a :: t) = aI r [a] ++ aI r t:=wv r [a] t
theorem uz (h:k < 5) (c:Nat):∃ x s,aI (dG k) [c] = x :: s:=by
 by_cases hc:c ∈ aA.getD k []
 ·obtain ⟨s,e⟩:=pS k h c hc;exact ⟨_,s,e⟩
 ·exact ⟨c,[],lR h hc⟩
theorem lL {k:Nat} (h:k < 5):∀ t u:List Nat,decide (aI (dG k) t < aI (dG k) u) = tlt (aK k) t u
 | [],[]=>by rw [lH];rfl
 | [],b :: u=>by
  obtain ⟨x,s,e⟩:=uz h b;rw [lH,ip,e];rfl
 | a :: t,[]=>by
  obtain ⟨x,s,e⟩:=uz h a;rw [lH,ip,e];rfl
 | a :: t,b :: u=>by
  rw [ip,ip _ b,oW];by_cases e:a = b
  ·rw [e,if_pos rfl,uZ,lL h t u]
  ·rw [if_neg e,tY _ _ (yM h e)]
noncomputable def maj (v:List Int) (f:Nat->Bool) (g:Nat->Bool):Bool:=decide (0 < ((List.range 5).map fun k=>v.getD k 0 * (b2i (f k) - b2i (g k))).sum)
noncomputable def tB (v:List Int) (o t:List Nat):Bool:=maj v (fun k=>tlt (aK k) o t) (fun k=>tlt (aK k) t o)
noncomputable def cB (v:List Int) (a b:Nat):Bool:=maj v (fun k=>decide (aK k a < aK k b)) (fun k=>decide (aK k b < aK k a))
theorem qN (v:List Int) (texts:List (List Nat)):aP v texts = texts.map fun t=>texts.filter fun o=>tB v o t:=by
 unfold aP;refine map_congr_left fun t _=>filter_congr fun o _=>?_
 unfold tB maj eh;refine congrArg (fun l:List Int=>decide (0 < l.sum)) (map_congr_left fun k hk=>?_)
 have hk:=List.mem_range.mp hk;unfold jE;rw [ri t hk,ri o hk,lL hk,lL hk]
structure VO (v:List Int):Prop where
 ok:iP v
 odd:v.sum % 2 = 1
 b0:v.getD 0 0 <= 4
 b3:∀ k,1 <= k->v.getD k 0 <= 3
theorem vs5 {α:Type} {P:List α->Prop} (h:∀ a b c d e,P [a,b,c,d,e]):∀ l:List α,l.length = 5->P l
 | a :: l,e=>vs4 (P:=fun l=>P (a :: l)) (h a) l (Nat.succ.inj e)
theorem yS (f:Nat->Int):((List.range 5).map f).sum = f 0 + f 1 + f 2 + f 3 + f 4:=by
 show f 0 + (f 1 + (f 2 + (f 3 + (f 4 + 0)))) = _;omega
theorem zV (s:Int):(s + (1 - s % 2)) % 2 = 1:=by omega
theorem zh {a:Int} (s:Int) (h0:0 <= a) (h3:a <= 3):0 <= a + (1 - s % 2) /\ a + (1 - s % 2) <= 4:=by omega
theorem m4 (x:Int):0 <= x % 4 /\ x % 4 <= 3:=⟨Int.emod_nonneg _ (by decide),Int.le_of_lt_add_one (Int.emod_lt_of_pos _ (by decide))⟩
theorem zs (script:List Int):VO (c8 (aD script)):=by
 generalize aD script = cs;have hv:c8 cs = [cs.getD 0 0 / 4 ^ 0 % 4 + (1 - (cQ cs).sum % 2),cs.getD 0 0 / 4 ^ 1 % 4,cs.getD 0 0 / 4 ^ 2 % 4,cs.getD 0 0 / 4 ^ 3 % 4,cs.getD 0 0 / 4 ^ 4 % 4]:=rfl;have hs:(cQ cs).sum = cs.getD 0 0 / 4 ^ 0 % 4 + cs.getD 0 0 / 4 ^ 1 % 4 + cs.getD 0 0 / 4 ^ 2 % 4 + cs.getD 0 0 / 4 ^ 3 % 4 + cs.getD 0 0 / 4 ^ 4 % 4:=yS _;have ha:=m4 (cs.getD 0 0 / 4 ^ 0);have hb:=m4 (cs.getD 0 0 / 4 ^ 1);have hc:=m4 (cs.getD 0 0 / 4 ^ 2);have hd:=m4 (cs.getD 0 0 / 4 ^ 3);have he:=m4 (cs.getD 0 0 / 4 ^ 4);rw [hv];have hx:=zh (cQ cs).sum ha.1 ha.2;generalize (cQ cs).sum = s at *;clear hv;generalize cs.getD 0 0 / 4 ^ 0 % 4 = a at *;generalize cs.getD 0 0 / 4 ^ 1 % 4 = b at *;generalize cs.getD 0 0 / 4 ^ 2 % 4 = c at *;generalize cs.getD 0 0 / 4 ^ 3 % 4 = d at *;generalize cs.getD 0 0 / 4 ^ 4 % 4 = e at *;have t:∀ {x:Int},0 <= x /\ x <= 3->0 <= x /\ x <= 4:=fun h=>⟨h.1,Int.le_trans h.2 (by decide)⟩
 have hm:∀ x ∈ [a + (1 - s % 2),b,c,d,e],0 <= x /\ x <= 4:=List.forall_mem_cons.mpr ⟨hx,List.forall_mem_cons.mpr ⟨t hb,List.forall_mem_cons.mpr ⟨t hc,List.forall_mem_cons.mpr ⟨t hd,List.forall_mem_cons.mpr ⟨t he,fun _ h=>nomatch h⟩⟩⟩⟩⟩
 refine ⟨⟨rfl,fun x hx=>(hm x hx).1,fun x hx=>Int.lt_of_le_of_lt (hm x hx).2 (by decide)⟩,?_,hx.2,fun k hk=>?_⟩
 ·have:[a + (1 - s % 2),b,c,d,e].sum = s + (1 - s % 2):=by
   show a + (1 - s % 2) + (b + (c + (d + (e + 0)))) = _;rw [hs,Int.add_right_comm,Int.add_zero];simp only [Int.add_assoc]
  rw [this];exact zV s
 ·match k with
  | 0=>exact absurd hk (by decide)
  | 1=>exact hb.2
  | 2=>exact hc.2
  | 3=>exact hd.2
  | 4=>exact he.2
  | _ + 5=>exact (by decide:(0:Int) <= 3)
theorem rT (b:Bool):b2i (!b) = 1 - b2i b:=by cases b <;> rfl
theorem xE (x:Int) (f:Bool) (A V S:Int) (h:S = 2 * A - V):x * (b2i f - b2i (!f)) + S = 2 * (x * b2i f + A) - (x + V):=by
 rw [rT,h];cases f
 ·show x * (0 - (1 - 0)) + _ = 2 * (x * 0 + A) - _;omega
 ·show x * (1 - (1 - 1)) + _ = 2 * (x * 1 + A) - _;omega
theorem vA (w:Nat->Int) (f:Nat->Bool) (l:List Nat):(l.map fun k=>w k * (b2i (f k) - b2i (!f k))).sum = 2 * (l.map fun k=>w k * b2i (f k)).sum - (l.map w).sum:=by
 induction l with
 | nil=>rfl
 | cons a l ih=>exact xE (w a) (f a) _ _ _ ih
theorem xK (x:Int) (f:Bool) (A V S:Int) (h:S = V - A):x * b2i (!f) + S = x + V - (x * b2i f + A):=by
 rw [rT,h,Int.mul_sub,Int.mul_one];omega
theorem uk (w:Nat->Int) (f:Nat->Bool) (l:List Nat):(l.map fun k=>w k * b2i (!f k)).sum = (l.map w).sum - (l.map fun k=>w k * b2i (f k)).sum:=by
 induction l with
 | nil=>rfl
 | cons a l ih=>exact xK (w a) (f a) _ _ _ ih
theorem VO.rng {v:List Int} (h:VO v):(List.range 5).map (fun k=>v.getD k 0) = v:=vs5 (P:=fun v=>(List.range 5).map (fun k=>v.getD k 0) = v) (fun _ _ _ _ _=>rfl) v h.ok.len
theorem gS {v:List Int} (hv:VO v) (f g:Nat->Bool) (h:∀ k,k < 5->g k = !f k):maj v f g = decide (v.sum < 2 * ((List.range 5).map fun k=>v.getD k 0 * b2i (f k)).sum):=by
 unfold maj;have e:((List.range 5).map fun k=>v.getD k 0 * (b2i (f k) - b2i (g k))) = (List.range 5).map fun k=>v.getD k 0 * (b2i (f k) - b2i (!f k)):=map_congr_left fun k hk=>by rw [h k (List.mem_range.mp hk)]
 rw [e,vA (fun k=>v.getD k 0),hv.rng]
 exact decide_eq_decide.mpr Int.sub_pos
theorem pV {v:List Int} (hv:VO v) (f g:Nat->Bool) (h:∀ k,k < 5->g k = !f k):maj v f g = !maj v g f:=by
 have ho:=hv.odd;rw [gS hv f g h,gS hv g f fun k hk=>by rw [h k hk,Bool.not_not]]
 have e:((List.range 5).map fun k=>v.getD k 0 * b2i (g k)) = (List.range 5).map fun k=>v.getD k 0 * b2i (!f k):=map_congr_left fun k hk=>by rw [h k (List.mem_range.mp hk)]
 rw [e,uk (fun k=>v.getD k 0),hv.rng,<- decide_not]
 exact decide_eq_decide.mpr (by omega)
theorem jH {v:List Int} {f g f' g':Nat->Bool} (hf:∀ k,k < 5->f k = f' k) (hg:∀ k,k < 5->g k = g' k):maj v f g = maj v f' g':=by
 unfold maj;refine congrArg (fun l:List Int=>decide (0 < l.sum)) (map_congr_left fun k hk=>?_)
 have hk:=List.mem_range.mp hk;rw [hf k hk,hg k hk]
theorem lP (v:List Int) (t:List Nat):tB v t t = false:=by
 unfold tB maj;refine decide_eq_false ?_
 rw [yS];simp
theorem rV {v:List Int} (hv:VO v) {t u:List Nat} (h:t ≠ u):tB v t u = !tB v u t:=pV hv _ _ fun k hk=>nq hk h.symm
theorem rn (p:Nat->Nat) (q t u:List Nat):tlt p (q ++ t) (q ++ u) = tlt p t u:=by
 induction q with
 | nil=>rfl
 | cons a q ih=>exact (if_pos rfl).trans ih
theorem uK (v:List Int) (q t u:List Nat):tB v (q ++ t) (q ++ u) = tB v t u:=jH (fun k _=>rn _ q t u) (fun k _=>rn _ q u t)
theorem xb (v:List Int) {a b:Nat} (h:a ≠ b) (t u:List Nat):tB v (a :: t) (b :: u) = cB v a b:=jH (fun _ _=>if_neg h) (fun _ _=>if_neg h.symm)
theorem tF {v:List Int} (h:∀ x ∈ v,0 <= x):0 <= v.sum:=by
 induction v with
 | nil=>exact Int.le_refl _
 | cons a l ih=>exact Int.add_nonneg (h a (.head _)) (ih fun x hx=>h x (.tail _ hx))
theorem uF {v:List Int} (hv:VO v) (b:Nat) (u:List Nat):tB v [] (b :: u) = true:=by
 have h1:=hv.odd;have h2:=tF hv.ok.pos;refine (gS hv _ _ fun _ _=>rfl).trans (decide_eq_true ?_)
 have e:((List.range 5).map fun k=>v.getD k 0 * b2i (tlt (aK k) [] (b :: u))) = v:=(map_congr_left fun k _=>Int.mul_one _).trans hv.rng
 rw [e];omega
theorem wt (hk:k < 5) (nd:ts.Nodup) (h5:ts.length <= 5) {a b:List Nat} (ha:a ∈ ts) (hb:b ∈ ts) :
  decide (((cj (bj (aA.getD k [])) ts).idxOf a:Int) < ((cj (bj (aA.getD k [])) ts).idxOf b:Int)) = tlt (aK k) a b:=by
 rw [<- rp hk];have hm:=gq hk;generalize aA.getD k [] = sg at *;obtain ⟨i,hi,rfl⟩:=getElem_of_mem ha;obtain ⟨j,hj,rfl⟩:=getElem_of_mem hb;clear ha hb;rw [<- ef [] hi,<- ef [] hj];unfold cj;split
 ·rename_i h2;have z:∀ {i},i < ts.length->i = 0:=fun h=>Nat.eq_zero_of_le_zero (le_of_lt_succ (Nat.lt_of_lt_of_le h (le_of_lt_succ h2)))
  rw [z hi,z hj,i3];exact decide_eq_false (Int.lt_irrefl _)
 ·rename_i hn;have tt:=km (key:=bj sg) nd (fun x _ y _ e=>fG hm e)
  obtain ⟨_,h2,h3⟩:=gy tt (Nat.le_of_not_lt hn) h5;show _ = (fun i j=>ltP (bj sg (ts.getD i [])) (bj sg (ts.getD j []))) i j
  generalize (fun i j=>ltP (bj sg (ts.getD i [])) (bj sg (ts.getD j []))) = lt at *
  generalize (kev lt (kas_sort ts.length)).toList = idx at h2 h3 ⊢;rw [tt.eq hi hj];have hl:idx.length = ts.length:=(length_map _).symm.trans ((congrArg List.length h2).trans length_range);have inj:∀ a,a < ts.length->∀ b,b < ts.length->bB lt ts.length a = bB lt ts.length b->a = b:=fun a ha b hb e=>Classical.byContradiction fun n=>
   (tt.tot a b ha hb n).elim (fun w=>ne_of_lt (tt.lt ha w) e) fun w=>ne_of_lt (tt.lt hb w) e.symm
  have nd2:(idx.map fun i=>ts.getD i []).Nodup:=oi ((List.pairwise_map.mp (h2 ▸ List.nodup_range:(idx.map (bB lt ts.length)).Nodup)).imp fun n e=>n (congrArg _ e)) fun a ha b hb e=>i0 nd (h3 a ha) (h3 b hb) e
  have key:∀ i,i < ts.length->(idx.map fun i=>ts.getD i []).idxOf (ts.getD i []) = bB lt ts.length i:=fun i hi=>by
   have hr:bB lt ts.length i < idx.length:=hl ▸ tt.rank_lt hi;have e2:bB lt ts.length idx[bB lt ts.length i] = bB lt ts.length i:=by
    have:=congrArg (fun l:List Nat=>l[bB lt ts.length i]?) h2
    rw [getElem?_map,List.getElem?_eq_getElem hr,List.getElem?_range (tt.rank_lt hi)] at this;exact Option.some.inj this
   have hm:bB lt ts.length i < (idx.map fun i=>ts.getD i []).length:=(length_map _).symm ▸ hr
   have e3:(idx.map fun i=>ts.getD i [])[bB lt ts.length i] = ts.getD i []:=by
    rw [List.getElem_map,inj _ (h3 _ (getElem_mem hr)) i hi e2]
   rw [<- e3];exact nd2.idxOf_getElem _ hm
  rw [key i hi,key j hj];exact decide_eq_decide.mpr Int.ofNat_lt
variable {texts:List (List Nat)}
theorem wz (hk:k < 5):(aV texts).getD k [] = cj (bj (aA.getD k [])) texts:=by
 rcases lt5 k hk with rfl | rfl | rfl | rfl | rfl <;> rfl
theorem sz (p:Nat->Bool) (g:Nat->Int) (l:List Nat):((l.filter p).map g).sum = (l.map fun k=>g k * b2i (p k)).sum:=by
 induction l with
 | nil=>rfl
 | cons x l ih=>
  rw [filter_cons,map_cons,List.sum_cons,<- ih]
  cases p x with
  | true=>exact (congrArg (· + _) (Int.mul_one _)).symm
  | false=>exact ((congrArg (· + _) (Int.mul_zero _)).trans (Int.zero_add _)).symm
theorem yh {v:List Int} (hv:VO v) (nd:texts.Nodup) (h5:texts.length <= 5):iZ v texts = aP v texts:=by
 rw [qN];unfold iZ;refine map_congr_left fun t ht=>filter_congr fun o ho=>?_
 have e:bN v texts o t = ((List.range 5).map fun k=>v.getD k 0 * b2i (tlt (aK k) o t)).sum:=by
  unfold bN;rw [sz];refine congrArg List.sum (map_congr_left fun k hk=>?_)
  have hk:=List.mem_range.mp hk;simp only [wz hk];rw [wt hk nd h5 ho ht]
 rw [e];by_cases h:o = t
 ·rw [h,lP];refine decide_eq_false ?_
  have:((List.range 5).map fun k=>v.getD k 0 * b2i (tlt (aK k) t t)) = (List.range 5).map fun _=>0:=map_congr_left fun k _=>by rw [rq];exact Int.mul_zero _
  rw [this];exact Int.not_lt.mpr (tF hv.ok.pos)
 ·exact (gS hv _ _ fun k hk=>nq hk (Ne.symm h)).symm
noncomputable def rN:List Nat:=[9,10,11,13,14,34,35,38,39,60,61,62,63]
noncomputable def an (c:Nat):Nat:=rN.countP fun t=>decide (t <= c)
noncomputable def yX:List Nat:=[0,9,10,11,13,14,34,35,38,39,60,61,62,63]
noncomputable def cN (i:Nat):Nat:=yX.getD i 0
theorem rS {c:Nat} (h:63 <= c):an c = 13:=
 List.countP_eq_length.mpr fun x hx=>decide_eq_true (Nat.le_trans ((by decide:∀ x ∈ rN,x <= 63) x hx) h)
theorem uH:∀ x ∈ bv,x < 63:=by decide
theorem bM (c:Nat):an c < 14 /\ cN (an c) <= c /\ ((c ∈ bv /\ cN (an c) = c) \/ (c ∉ bv /\ cN (an c) ∉ bv /\ ∀ x ∈ bv,(x < c ↔ x < cN (an c)))):=by
 rcases lt_or_ge c 63 with h | h
 ·have:∀ c,c < 63->an c < 14 /\ cN (an c) <= c /\ ((c ∈ bv /\ cN (an c) = c) \/ (c ∉ bv /\ cN (an c) ∉ bv /\ ∀ x ∈ bv,(x < c ↔ x < cN (an c)))):=by decide +kernel
  exact this c h
 ·rw [rS h];exact ⟨by decide,h,.inr ⟨fun z=>absurd (uH c z) (not_lt_of_le h),by decide,fun x hx=>⟨fun _=>uH x hx,fun z=>Nat.lt_of_lt_of_le z h⟩⟩⟩
theorem uC {a b:Nat} (h:a <= b):an a <= an b:=List.countP_mono_left fun x _ hx=>decide_eq_true (Nat.le_trans (of_decide_eq_true hx) h)
theorem wg:∀ i,i < 14->an (cN i) = i:=by decide +kernel
theorem rv {a b:Nat} (h:an a < an b):a < cN (an b):=
 Nat.lt_of_not_le fun z=>not_lt_of_le (wg _ (bM b).1 ▸ uC z) h
theorem rd {x:Nat} (hx:x ∈ bv):aK k x = 8 * x \/ (304 <= aK k x /\ aK k x < 312):=by
 unfold aK;split
 ·exact .inr ⟨le_add_right _ _,Nat.add_lt_add_left (Nat.lt_succ_of_lt (uw hx)) 304⟩
 ·exact .inl rfl
theorem ct (h:k < 5) {x:Nat} (hx:x ∉ bv):aK k x = 8 * x:=if_neg fun z=>hx (in7 h z)
theorem p38 {m c:Nat} (h:304 <= m /\ m < 312):m < 8 * c ↔ 38 < c:=
 ⟨fun z=>Nat.lt_of_mul_lt_mul_left (a:=8) (Nat.lt_of_le_of_lt h.1 z),fun z=>Nat.lt_of_lt_of_le h.2 (Nat.mul_le_mul_left 8 z)⟩
theorem p8 {x c:Nat}:8 * x < 8 * c ↔ x < c:=Nat.mul_lt_mul_left (by decide)
theorem u8 (h:k < 5) {x c:Nat} (hx:x ∈ bv) (hc:c ∉ bv) (hr:cN (an c) ∉ bv) (hi:∀ x ∈ bv,(x < c ↔ x < cN (an c))):(aK k x < aK k c ↔ aK k x < aK k (cN (an c))):=by
 rw [ct h hc,ct h hr];rcases rd (k:=k) hx with e | e
 ·rw [e,p8,p8];exact hi x hx
 ·rw [p38 e,p38 e];exact hi 38 (by decide)
theorem xp {a b c d:Nat} (h:a < b ↔ c < d) (n1:a ≠ b) (n2:c ≠ d):b < a ↔ d < c:=
 ⟨fun z=>(Nat.lt_or_gt_of_ne n2).resolve_left fun w=>lt_asymm z (h.mpr w),fun z=>(Nat.lt_or_gt_of_ne n1).resolve_left fun w=>lt_asymm z (h.mp w)⟩
theorem vv (h:k < 5) {a b:Nat} (hne:an a ≠ an b):decide (aK k a < aK k b) = decide (aK k (cN (an a)) < aK k (cN (an b))):=by
 refine decide_eq_decide.mpr ?_
 obtain ⟨la,ra,sa⟩:=bM a;obtain ⟨lb,rb,sb⟩:=bM b;rcases sa with ⟨ma,ea⟩ | ⟨ma,na,ia⟩
 ·rcases sb with ⟨mb,eb⟩ | ⟨mb,nb,ib⟩
  ·rw [ea,eb]
  ·rw [ea];exact u8 h ma mb nb ib
 ·rcases sb with ⟨mb,eb⟩ | ⟨mb,nb,ib⟩
  ·rw [eb];exact xp (u8 h mb ma na ia) (fun z=>hne (congrArg an (gn h z)).symm) fun z=>na (gn h z ▸ mb)
  ·rw [ct h ma,ct h mb,ct h na,ct h nb,p8,p8];rcases Nat.lt_or_gt_of_ne hne with z | z
   ·have w:=rv z;exact ⟨fun _=>Nat.lt_of_le_of_lt ra w,fun _=>Nat.lt_of_lt_of_le w rb⟩
   ·have w:=rv z;exact ⟨fun q=>absurd (Nat.lt_of_lt_of_le w ra) (lt_asymm q),fun q=>absurd (Nat.lt_of_le_of_lt rb w) (lt_asymm q)⟩
noncomputable def gT (i j:Nat):List Bool:=(List.range 5).map fun k=>decide (aK k (cN i) < aK k (cN j))
structure W7 where
 x1:Bool
 x3:Bool
 x4:Bool
 x123:Bool
 x234:Bool
 x23:Bool
 x24:Bool
noncomputable def W7.win (w:W7):List Bool->Bool
 | [true,true,true,true,true]=>true
 | [false,true,false,false,false]=>w.x1
 | [true,false,true,true,true]=>!w.x1
 | [false,false,false,true,false]=>w.x3
 | [true,true,true,false,true]=>!w.x3
 | [false,false,false,false,true]=>w.x4
 | [true,true,true,true,false]=>!w.x4
 | [false,true,true,true,false]=>w.x123
 | [true,false,false,false,true]=>!w.x123
 | [false,false,true,true,true]=>w.x234
 | [true,true,false,false,false]=>!w.x234
 | [false,false,true,true,false]=>w.x23
 | [true,true,false,false,true]=>!w.x23
 | [false,false,true,false,true]=>w.x24
 | [true,true,false,true,false]=>!w.x24
 | _=>false
noncomputable def w7 (v:List Int):W7:=
 let h (l:List Nat):Bool:=decide (v.sum < 2 * (l.map fun k=>v.getD k 0).sum)
 ⟨h [1],h [3],h [4],h [1,2,3],h [2,3,4],h [2,3],h [2,4]⟩
noncomputable def W7.okB (w:W7):Bool:=(!w.x1 || w.x123) && (!w.x3 || w.x23) && (!w.x3 || w.x123) && (!w.x4 || w.x234) && (!w.x4 || w.x24) && (!w.x23 || w.x234) && (!w.x23 || w.x123) && (!w.x24 || w.x234) && !(w.x1 && w.x3) && !(w.x1 && w.x4) && !(w.x3 && w.x4) && !(w.x1 && w.x234) && !(w.x1 && w.x23) && !(w.x1 && w.x24) && !(w.x3 && w.x24) && !(w.x4 && w.x123) && !(w.x4 && w.x23)
noncomputable def W7.kind (w:W7):Nat:=if !w.x234 && w.x123 && !w.x1 then 1 else if w.x23 && !w.x24 && !w.x3 then 2 else 0
noncomputable def cz:Nat->List (Nat × Nat)
 | 1=>[(6,7),(7,4),(4,6)]
 | 2=>[(6,12),(12,10),(10,6)]
 | _=>[]
noncomputable def yl (m:List (List Bool)):List Nat:=(List.range 14).map fun j=>(m.map fun r=>r.getD j false).countP id
noncomputable def W7.goodB (w:W7):Bool:=
 let m:List (List Bool):=(List.range 14).map fun i=>(List.range 14).map fun j=>w.win (gT i j)
 let d:=yl m
 ((List.range 14).all fun i=>(List.range 14).all fun j=>i == j || !((m.getD i []).getD j false) || decide (d.getD i 0 < d.getD j 0) || (d.getD i 0 == d.getD j 0 && (cz w.kind).contains (i,j))) &&
 (cz w.kind).all fun p=>(m.getD p.1 []).getD p.2 false
set_option maxHeartbeats 0 in
theorem xJ:∀ x1 x3 x4 x123 x234 x23 x24:Bool,(!(W7.okB ⟨x1,x3,x4,x123,x234,x23,x24⟩) || W7.goodB ⟨x1,x3,x4,x123,x234,x23,x24⟩) = true:=by decide +kernel
noncomputable def m9:List (List Bool):=[[true,true,true,true,true],[false,true,false,false,false],[true,false,true,true,true],[false,false,false,true,false],[true,true,true,false,true],[false,false,false,false,true],[true,true,true,true,false],[false,true,true,true,false],[true,false,false,false,true],[false,false,true,true,true],[true,true,false,false,false],[false,false,true,true,false],[true,true,false,false,true],[false,false,true,false,true],[true,true,false,true,false],[false,false,false,false,false]]
theorem wo:∀ i,i < 14->∀ j,j < 14->i ≠ j->gT i j ∈ m9:=by decide +kernel
noncomputable def j9 (v:List Int):Bool:=((m9.all fun m=>(w7 v).win m == decide (v.sum < 2 * ((List.range 5).map fun k=>v.getD k 0 * b2i (m.getD k false)).sum)) && (w7 v).okB) && ((w7 v).kind == aw v)
theorem xN:((List.range 5).all fun a=>(List.range 4).all fun b=>(List.range 4).all fun c=>(List.range 4).all fun d=>(List.range 4).all fun e=>!((a + (b + (c + (d + (e + 0))))) % 2 == 1) || j9 [(a:Nat),(b:Nat),(c:Nat),(d:Nat),(e:Nat)]) = true:=by decide +kernel
theorem iQ {p:Nat->Bool} (h:(List.range (n + 1)).all p = true) {x:Int} (h0:0 <= x) (h1:x <= (n:Nat)) {P:Int->Prop} (k:∀ a:Nat,p a = true->P (a:Nat)):P x:=by
 obtain ⟨a,rfl⟩:=Int.eq_ofNat_of_zero_le h0;exact k a (List.all_eq_true.mp h _ (List.mem_range.mpr (Nat.lt_succ_of_le (Int.ofNat_le.mp h1))))
theorem VO.fin {v:List Int} (hv:VO v):j9 v = true:=
 vs5 (P:=fun v=>VO v->j9 v = true) (fun a b c d e h=>
  iQ (n:=4) (P:=fun a=>(a + (b + (c + (d + (e + 0))))) % 2 = 1->j9 [a,b,c,d,e] = true) xN (h.ok.pos a (.head _)) h.b0 (fun a q=>
  iQ (n:=3) (P:=fun b=>((a:Nat) + (b + (c + (d + (e + 0))))) % 2 = 1->j9 [(a:Nat),b,c,d,e] = true) q (h.ok.pos b (.tail _ (.head _))) (h.b3 1 (Nat.le_refl _)) fun b q=>
  iQ (n:=3) (P:=fun c=>((a:Nat) + ((b:Nat) + (c + (d + (e + 0))))) % 2 = 1->j9 [(a:Nat),(b:Nat),c,d,e] = true) q (h.ok.pos c (.tail _ (.tail _ (.head _)))) (h.b3 2 (le_of_ble_eq_true rfl)) fun c q=>
  iQ (n:=3) (P:=fun d=>((a:Nat) + ((b:Nat) + ((c:Nat) + (d + (e + 0))))) % 2 = 1->j9 [(a:Nat),(b:Nat),(c:Nat),d,e] = true) q (h.ok.pos d (.tail _ (.tail _ (.tail _ (.head _))))) (h.b3 3 (le_of_ble_eq_true rfl)) fun d q=>
  iQ (n:=3) (P:=fun e=>((a:Nat) + ((b:Nat) + ((c:Nat) + ((d:Nat) + (e + 0))))) % 2 = 1->j9 [(a:Nat),(b:Nat),(c:Nat),(d:Nat),e] = true) q (h.ok.pos e (.tail _ (.tail _ (.tail _ (.tail _ (.head _)))))) (h.b3 4 (le_of_ble_eq_true rfl)) fun e q ho=>by
   refine (Bool.or_eq_true_iff.mp q).resolve_left fun q=>?_
   rw [Bool.not_eq_true',beq_eq_false_iff_ne] at q;exact q (Int.ofNat.inj ho)) h.odd) v hv.ok.len hv
theorem yW {v:List Int} (hv:VO v) {m:List Bool} (hm:m ∈ m9):(w7 v).win m = decide (v.sum < 2 * ((List.range 5).map fun k=>v.getD k 0 * b2i (m.getD k false)).sum):=
 eq_of_beq (List.all_eq_true.mp (Bool.and_eq_true_iff.mp (Bool.and_eq_true_iff.mp hv.fin).1).1 m hm)
theorem qF {α:Type} (f:Nat->α) (d:α) {n i:Nat} (h:i < n):((List.range n).map f).getD i d = f i:=by
 have h':i < ((List.range n).map f).length:=by rw [length_map,length_range];exact h
 rw [ef d h',List.getElem_map,List.getElem_range]
theorem vb {v:List Int} (hv:VO v) {a b:Nat} (h:an a ≠ an b):cB v a b = (w7 v).win (gT (an a) (an b)):=by
 rw [yW hv (wo _ (bM a).1 _ (bM b).1 h)];unfold cB;rw [gS hv]
 ·refine congrArg (fun l:List Int=>decide (v.sum < 2 * l.sum)) (map_congr_left fun k hk=>?_)
  have hk:=List.mem_range.mp hk;rw [vv hk h];unfold gT;rw [qF _ _ hk]
 ·exact fun k hk=>vM _ _ fun z=>h (congrArg an (gn hk z.symm))
theorem y8 {v:List Int} (hv:VO v):(w7 v).okB = true:=(Bool.and_eq_true_iff.mp (Bool.and_eq_true_iff.mp hv.fin).1).2
theorem rL {v:List Int} (hv:VO v):(w7 v).kind = aw v:=eq_of_beq (Bool.and_eq_true_iff.mp hv.fin).2
theorem pY {v:List Int} (hv:VO v):(w7 v).goodB = true:=by
 have h:=xJ (w7 v).x1 (w7 v).x3 (w7 v).x4 (w7 v).x123 (w7 v).x234 (w7 v).x23 (w7 v).x24;have o:=y8 hv;rcases Bool.or_eq_true_iff.mp h with h | h
 ·have h:(!(w7 v).okB) = true:=h;rw [o] at h;cases h
 ·exact h
noncomputable def iH (v:List Int) (c:Nat):Nat:=(yl ((List.range 14).map fun i=>(List.range 14).map fun j=>(w7 v).win (gT i j))).getD (an c) 0
theorem ux (w:W7) (hi:i < 14) (hj:j < 14):(((List.range 14).map fun i=>(List.range 14).map fun j=>w.win (gT i j)).getD i []).getD j false = w.win (gT i j):=by
 rw [qF _ _ hi,qF _ _ hj]
theorem rF {v:List Int} (hv:VO v) {a b:Nat} (h:an a ≠ an b) (hc:cB v a b = true):iH v a < iH v b \/ (iH v a = iH v b /\ (an a,an b) ∈ cz (aw v)):=by
 rw [vb hv h] at hc;have g:=pY hv;unfold W7.goodB at g;simp only [Bool.and_eq_true,List.all_eq_true,List.mem_range] at g;have:=g.1 _ (bM a).1 _ (bM b).1;rw [ux _ (bM a).1 (bM b).1,hc,rL hv] at this;simp only [Bool.or_eq_true,beq_iff_eq,Bool.not_true,Bool.false_eq_true,or_false,decide_eq_true_eq,Bool.and_eq_true,List.contains_iff_mem] at this;rcases this with (h1 | h2) | h3
 ·exact absurd h1 h
 ·exact .inl h2
 ·exact .inr h3
theorem zu:∀ k,∀ p ∈ cz k,p.1 ≠ p.2
 | 0,_,h=>nomatch h
 | 1,p,h=>(by decide:∀ p ∈ cz 1,p.1 ≠ p.2) p h
 | 2,p,h=>(by decide:∀ p ∈ cz 2,p.1 ≠ p.2) p h
 | _ + 3,_,h=>nomatch h
theorem xT {v:List Int} (hv:VO v) {a b:Nat} (h:(an a,an b) ∈ cz (aw v)):cB v a b = true:=by
 have hne:an a ≠ an b:=zu _ _ h;rw [vb hv hne];have g:=pY hv;unfold W7.goodB at g;have:=List.all_eq_true.mp (Bool.and_eq_true_iff.mp g).2 _ (rL hv ▸ h);rwa [ux _ (bM a).1 (bM b).1] at this
theorem uP {a b:Nat} (h:an a = an b) (hne:a ≠ b):a ∉ bv /\ b ∉ bv:=by
 obtain ⟨_,_,sa⟩:=bM a;obtain ⟨_,_,sb⟩:=bM b;rw [h] at sa;rcases sa with ⟨ma,ea⟩ | ⟨ma,na,ia⟩
 ·rcases sb with ⟨mb,eb⟩ | ⟨mb,nb,ib⟩
  ·exact absurd (ea.symm.trans eb) hne
  ·rw [ea] at nb;exact absurd ma nb
 ·rcases sb with ⟨mb,eb⟩ | ⟨mb,nb,ib⟩
  ·rw [eb] at na;exact absurd mb na
  ·exact ⟨ma,mb⟩
theorem xl {v:List Int} (hv:VO v) {a b:Nat} (h:an a = an b) (hne:a ≠ b) (hc:cB v a b = true):a < b:=by
 obtain ⟨ma,mb⟩:=uP h hne;refine (Nat.lt_or_gt_of_ne hne).resolve_right fun z=>?_
 have e:cB v b a = true:=(jH (v:=v) (f':=fun _=>true) (g':=fun _=>false) (fun k hk=>by
  rw [ct hk ma,ct hk mb];exact decide_eq_true (p8.mpr z)) (fun k hk=>by rw [ct hk ma,ct hk mb];exact decide_eq_false fun w=>lt_asymm z (p8.mp w))).trans (uF hv 0 [])
 have anti:cB v a b = !cB v b a:=pV hv _ _ fun k hk=>vM _ _ fun z=>hne (gn hk z.symm)
 rw [anti,e] at hc;cases hc
noncomputable def bg (k i:Nat):Nat:=if (k = 1 /\ i = 7) \/ (k = 2 /\ i = 12) then 1 else if (k = 1 /\ i = 4) \/ (k = 2 /\ i = 10) then 2 else 0
noncomputable def cq:Nat->List Nat
 | 1=>[6,7,4]
 | 2=>[6,12,10]
 | _=>[]
theorem xm:∀ q ∈ cz 1,q.1 ∈ cq 1 /\ q.2 ∈ cq 1 /\ bg 1 q.2 = (bg 1 q.1 + 1) % 3:=by decide
theorem xW:∀ q ∈ cz 2,q.1 ∈ cq 2 /\ q.2 ∈ cq 2 /\ bg 2 q.2 = (bg 2 q.1 + 1) % 3:=by decide
theorem fP:∀ {k i j:Nat},(i,j) ∈ cz k->i ∈ cq k /\ j ∈ cq k /\ bg k j = (bg k i + 1) % 3 /\ (k = 1 \/ k = 2)
 | 0,_,_,h=>nomatch h
 | 1,_,_,h=>let ⟨a,b,c⟩:=xm _ h;⟨a,b,c,.inl rfl⟩
 | 2,_,_,h=>let ⟨a,b,c⟩:=xW _ h;⟨a,b,c,.inr rfl⟩
 | _ + 3,_,_,h=>nomatch h
theorem fy (k i:Nat):bg k i < 3:=by
 unfold bg;split
 ·decide
 ·split <;> decide
theorem zS:∀ i ∈ cq 1,∀ j ∈ cq 1,bg 1 j = (bg 1 i + 1) % 3->(i,j) ∈ cz 1:=by decide
theorem zP:∀ i ∈ cq 2,∀ j ∈ cq 2,bg 2 j = (bg 2 i + 1) % 3->(i,j) ∈ cz 2:=by decide
theorem y6:∀ {k i j:Nat},i ∈ cq k->j ∈ cq k->bg k j = (bg k i + 1) % 3->(i,j) ∈ cz k
 | 0,_,_,hi,_,_=>nomatch hi
 | 1,_,_,hi,hj,h=>zS _ hi _ hj h
 | 2,_,_,hi,hj,h=>zP _ hi _ hj h
 | _ + 3,_,_,hi,_,_=>nomatch hi
theorem zX:∀ x,x < 3->∀ a,a < 3->∀ b,b < 3->a ≠ x /\ b ≠ x /\ b = (a + 1) % 3->(a + 2 - x) % 3 <= (b + 2 - x) % 3:=by decide
theorem zE:∀ x,x < 3->∀ a,a < 3->∀ b,b < 3->a ≠ x /\ b ≠ x /\ b = (a + 1) % 3->(a + 2 - x) % 3 ≠ (b + 2 - x) % 3:=by decide
theorem wL {P:Nat->Prop} (h0:P 0):∀ n,∃ p,p <= n /\ P p /\ ∀ q,q <= n->P q->q <= p
 | 0=>⟨0,Nat.le_refl _,h0,fun _ h _=>h⟩
 | n + 1=>by
  by_cases c:P (n + 1)
  ·exact ⟨n + 1,Nat.le_refl _,c,fun _ h _=>h⟩
  ·obtain ⟨p,h1,h2,h3⟩:=wL h0 n;exact ⟨p,Nat.le_succ_of_le h1,h2,fun q hq hp=>(Nat.lt_or_eq_of_le hq).elim (fun z=>h3 q (le_of_lt_succ z) hp) fun z=>absurd (show P (n + 1) from z ▸ hp) c⟩
theorem mW {f:Nat->Nat} {L:Nat} (h:∀ k,k < L->f k <= f (k + 1)) (e:f L <= f 0) (k:Nat) (hk:k <= L):f k = f 0:=by
 have up:∀ m k,k + m <= L->f k <= f (k + m):=by
  intro m k
  induction m with
  | zero=>exact fun _=>Nat.le_refl _
  | succ m ih=>exact fun hk=>Nat.le_trans (ih (Nat.le_of_succ_le hk)) (h (k + m) hk)
 have h1:=up k 0;have h2:=up (L - k) k;rw [Nat.zero_add] at h1;rw [Nat.add_sub_cancel' hk] at h2;exact Nat.le_antisymm (Nat.le_trans (h2 (Nat.le_refl _)) e) (h1 hk)
theorem mP {t:List Nat} {p:Nat} (h:p < t.length):t = t.take p ++ t.getD p 0 :: t.drop (p + 1):=by
 have e:t.getD p 0 = t[p]:=by simp [List.getD,h]
 rw [e,<- drop_eq_getElem_cons h,List.take_append_drop]
theorem ug (v:List Int) {t u:List Nat} {p:Nat} (ht:p < t.length) (hu:p < u.length) (e:t.take p = u.take p) (hne:t.getD p 0 ≠ u.getD p 0):tB v t u = cB v (t.getD p 0) (u.getD p 0):=by
 rw [mP ht,mP hu,<- e,uK];have a1:=mP ht;have a2:=mP hu;have e1:(t.take p ++ t.getD p 0 :: t.drop (p + 1)).getD p 0 = t.getD p 0:=by rw [<- a1]
 have e2:(t.take p ++ u.getD p 0 :: u.drop (p + 1)).getD p 0 = u.getD p 0:=by rw [e,<- a2]
 rw [e1,e2];exact xb v hne _ _
structure RF (v:List Int) (L:Nat) (f:Nat->List Nat) (p:Nat):Prop where
 plt:p < 4
 pre:∀ k,k <= L->(f k).take p = (f 0).take p
 len:∀ k,k <= L->p < (f k).length
 max:∀ p',p' < 4->(∀ k,k <= L->(f k).take p' = (f 0).take p')->p' <= p
 knd:aw v = 1 \/ aw v = 2
 rc:∀ k,k <= L->an ((f k).getD p 0) ∈ cq (aw v)
 stp:∀ k,k < L->bg (aw v) (an ((f (k + 1)).getD p 0)) = bg (aw v) (an ((f k).getD p 0)) \/ bg (aw v) (an ((f (k + 1)).getD p 0)) = (bg (aw v) (an ((f k).getD p 0)) + 1) % 3
 all:∀ x,x < 3->∃ k,k <= L /\ bg (aw v) (an ((f k).getD p 0)) = x
theorem pK {t:List Nat} {p:Nat} (h:p < t.length):t.take (p + 1) = t.take p ++ [t.getD p 0]:=by
 have e:t.getD p 0 = t[p]:=by simp [List.getD,h]
 rw [e,List.take_append_getElem h]
theorem mi {v:List Int} (hv:VO v) {L:Nat} (hL:1 <= L) {f:Nat->List Nat} (h0:f 0 = f L) (h4:∀ k,k <= L->(f k).length <= 4) (hB:∀ k,k < L->tB v (f k) (f (k + 1)) = true):∃ p,RF v L f p:=by
 have ⟨p,hp,hP,hm⟩:=wL (P:=fun p=>∀ k,k <= L->(f k).take p = (f 0).take p) (fun _ _=>rfl) 3
 have hlen':∀ k,k < L->p < (f (k + 1)).length:=fun k hk=>by
  rcases lt_or_ge p (f (k + 1)).length with z | z
  ·exact z
  ·have e1:f (k + 1) = (f k).take p:=by rw [hP k (le_of_lt hk),<- hP (k + 1) hk,List.take_of_length_le z]
   have hb:=hB k hk;have e2:f k = f (k + 1) ++ (f k).drop p:=by rw [e1,List.take_append_drop]
   have e4:tB v (f k) (f (k + 1)) = tB v ((f k).drop p) []:=by
    rw [<- uK v (f (k + 1)) ((f k).drop p) [],<- e2,append_nil]
   rw [e4] at hb
   cases hd:(f k).drop p with
   | nil=>rw [hd,lP] at hb;cases hb
   | cons y s=>rw [hd,rV hv (by intro z;cases z),uF hv] at hb;cases hb
 have hlen:∀ k,k <= L->p < (f k).length:=fun k hk=>by
  cases k with
  | zero=>
   have:=hlen' (L - 1) (Nat.sub_lt hL Nat.one_pos);rwa [Nat.sub_add_cancel hL,<- h0] at this
  | succ k=>exact hlen' k hk
 have step:∀ k,k < L->(f k).getD p 0 = (f (k + 1)).getD p 0 \/ ((f k).getD p 0 ≠ (f (k + 1)).getD p 0 /\ cB v ((f k).getD p 0) ((f (k + 1)).getD p 0) = true):=fun k hk=>by
  by_cases e:(f k).getD p 0 = (f (k + 1)).getD p 0
  ·exact .inl e
  ·refine .inr ⟨e,?_⟩
   rw [<- ug v (hlen k (le_of_lt hk)) (hlen (k + 1) hk) ((hP k (le_of_lt hk)).trans (hP (k + 1) hk).symm) e];exact hB k hk
 have h0':∀ g:List Nat->Nat,g (f L) <= g (f 0):=fun g=>le_of_eq (congrArg g h0.symm)
 have rk:=mW (f:=fun k=>iH v ((f k).getD p 0)) (L:=L) (fun k hk=>by
  rcases step k hk with e | ⟨_,e⟩
  ·exact le_of_eq (congrArg (iH v) e)
  ·by_cases c:an ((f k).getD p 0) = an ((f (k + 1)).getD p 0)
   ·exact le_of_eq (by show iH v _ = iH v _;unfold iH;rw [c])
   ·rcases rF hv c e with z | z
    ·exact le_of_lt z
    ·exact le_of_eq z.1) (h0' fun t=>iH v (t.getD p 0))
 have cs:∀ k,k < L->an ((f k).getD p 0) = an ((f (k + 1)).getD p 0) \/ (an ((f k).getD p 0),an ((f (k + 1)).getD p 0)) ∈ cz (aw v):=fun k hk=>by
  rcases step k hk with e | ⟨_,e⟩
  ·exact .inl (congrArg an e)
  ·by_cases c:an ((f k).getD p 0) = an ((f (k + 1)).getD p 0)
   ·exact .inl c
   ·rcases rF hv c e with z | z
    ·exact absurd ((rk k (le_of_lt hk)).trans (rk (k + 1) hk).symm) (ne_of_lt z)
    ·exact .inr z.2
 have notall:¬ ∀ k,k < L->an ((f k).getD p 0) = an ((f (k + 1)).getD p 0):=fun q=>by
  have ch:=mW (f:=fun k=>(f k).getD p 0) (L:=L) (fun k hk=>by
   rcases step k hk with e | ⟨n,e⟩
   ·exact le_of_eq e
   ·exact le_of_lt (xl hv (q k hk) n e)) (h0' fun t=>t.getD p 0)
  have tk:∀ k,k <= L->(f k).take (p + 1) = (f 0).take (p + 1):=fun k hk=>by
   rw [pK (hlen k hk),pK (hlen 0 (zero_le _)),hP k hk,show (f k).getD p 0 = _ from ch k hk]
  rcases lt_or_ge p 3 with z | z
  ·exact absurd (hm (p + 1) z tk) (Nat.not_succ_le_self p)
  ·have w:∀ k,k <= L->f k = (f 0).take (p + 1):=fun k hk=>by rw [<- tk k hk,List.take_of_length_le (Nat.le_trans (h4 k hk) (Nat.succ_le_succ z))]
   have:=hB 0 hL;rw [w 0 (zero_le _),w 1 hL,lP] at this;cases this
 have ⟨k0,hk0,hs0⟩:∃ k,k < L /\ (an ((f k).getD p 0),an ((f (k + 1)).getD p 0)) ∈ cz (aw v):=
  Classical.byContradiction fun q=>notall fun k hk=>(cs k hk).elim id fun e=>absurd ⟨k,hk,e⟩ q
 clear notall rk step hlen';generalize hc:(fun k=>an ((f k).getD p 0)) = c
 have hc':∀ k,an ((f k).getD p 0) = c k:=fun k=>congrFun hc k
 have c0:c 0 = c L:=by rw [<- hc',<- hc',h0]
 simp only [hc'] at cs hs0;have inv:∀ k,k <= L->(c k ∈ cq (aw v) ↔ c 0 ∈ cq (aw v)):=by
  intro k
  induction k with
  | zero=>exact fun _=>Iff.rfl
  | succ k ih=>
   intro hk;rw [<- ih (le_of_lt hk)];rcases cs k hk with e | e
   ·rw [e]
   ·exact ⟨fun _=>(fP e).1,fun _=>(fP e).2.1⟩
 have rc:∀ k,k <= L->c k ∈ cq (aw v):=fun k hk=>(inv k hk).mpr ((inv k0 (le_of_lt hk0)).mp (fP hs0).1)
 have stp:∀ k,k < L->bg (aw v) (c (k + 1)) = bg (aw v) (c k) \/ bg (aw v) (c (k + 1)) = (bg (aw v) (c k) + 1) % 3:=fun k hk=>
  (cs k hk).elim (fun e=>.inl (by rw [e])) fun e=>.inr (fP e).2.2.1
 refine ⟨p,Nat.lt_succ_of_le hp,hP,hlen,fun q hq=>hm q (le_of_lt_succ hq),(fP hs0).2.2.2,fun k hk=>hc' k ▸ rc k hk,fun k hk=>by rw [hc',hc'];exact stp k hk,fun x hx=>Classical.byContradiction fun q=>?_⟩
 have ne:∀ k,k <= L->bg (aw v) (c k) ≠ x:=fun k hk e=>q ⟨k,hk,(congrArg _ (hc' k)).trans e⟩
 have con:=mW (f:=fun k=>(bg (aw v) (c k) + 2 - x) % 3) (L:=L) (fun k hk=>(stp k hk).elim (fun e=>le_of_eq (congrArg (fun m=>(m + 2 - x) % 3) e.symm)) fun e=>zX x hx _ (fy _ _) _ (fy _ _) ⟨ne k (le_of_lt hk),ne (k + 1) hk,e⟩) (le_of_eq (by show (_ + 2 - x) % 3 = _;rw [c0]))
 exact zE x hx _ (fy _ _) _ (fy _ _) ⟨ne k0 (le_of_lt hk0),ne (k0 + 1) hk0,(fP hs0).2.2.1⟩ ((con k0 (le_of_lt hk0)).trans (con (k0 + 1) hk0).symm)
noncomputable def jK (kind:List (List (List Nat))) (texts:List (List Nat)) (t:List Nat) (p:Nat):Prop:=(kF kind texts t p).length = 3 /\ (kind.filter fun signs=>decide ([t.getD p 0] ∈ signs)) ≠ []
theorem zp (kind:List (List (List Nat))) (texts:List (List Nat)) (t:List Nat) (ca:List (List Nat)) (p:Nat):em kind texts t ca p = true ↔ jK kind texts t p /\ t ∉ ca:=by
 unfold em jK;rw [Bool.and_true,Bool.and_eq_true,Bool.and_eq_true,and_assoc,beq_iff_eq,Bool.not_eq_true',Bool.not_eq_true',decide_eq_false_iff_not,decide_eq_false_iff_not];exact and_congr_left fun _=>Int.ofNat_inj (n:=3)
theorem wp (kind:List (List (List Nat))) (texts:List (List Nat)) (t:List Nat) (ca:List (List Nat)) (p:Nat) (x:List Nat):x ∈ bD kind texts t ca p ↔ x ∈ ca \/ (x = t /\ jK kind texts t p):=by
 have h:=zp kind texts t ca p;unfold bD;generalize em kind texts t ca p = c at *
 cases c with
 | true=>
  rw [if_pos rfl,List.mem_append,List.mem_singleton];exact or_congr_right ⟨fun e=>⟨e,(h.mp rfl).1⟩,fun e=>e.1⟩
 | false=>
  exact ⟨.inl,fun q=>q.elim id fun ⟨e,h1⟩=>Classical.byContradiction fun z=>Bool.noConfusion (h.mpr ⟨h1,e ▸ z⟩)⟩
theorem xG (kind:List (List (List Nat))) (texts:List (List Nat)) (t:List Nat) (x:List Nat) (l:List Nat) (ca:List (List Nat)):x ∈ l.foldl (bD kind texts t) ca ↔ x ∈ ca \/ (x = t /\ ∃ p,p ∈ l /\ jK kind texts t p):=by
 induction l generalizing ca with
 | nil=>exact ⟨.inl,fun q=>q.elim id fun ⟨_,_,h,_⟩=>nomatch h⟩
 | cons p l ih=>
  refine (ih _).trans ((or_congr_left (wp kind texts t ca p x)).trans (or_assoc.trans (or_congr_right (and_or_left.symm.trans (and_congr_right fun _=>?_)))))
  exact ⟨fun h=>h.elim (fun h=>⟨p,.head _,h⟩) fun ⟨q,hq,h⟩=>⟨q,.tail _ hq,h⟩,fun ⟨q,hq,h⟩=>(List.mem_cons.mp hq).elim (fun e=>.inl (e ▸ h)) fun hq=>.inr ⟨q,hq,h⟩⟩
theorem vT (kind:List (List (List Nat))) (texts:List (List Nat)) (x:List Nat) (l:List (List Nat)) (ca:List (List Nat)):x ∈ l.foldl (e7 kind texts) ca ↔ x ∈ ca \/ (x ∈ l /\ ∃ p,p ∈ List.range x.length /\ jK kind texts x p):=by
 induction l generalizing ca with
 | nil=>exact ⟨.inl,fun q=>q.elim id fun h=>nomatch h.1⟩
 | cons t l ih=>
  refine (ih _).trans ((or_congr_left (xG kind texts t x _ ca)).trans (or_assoc.trans (or_congr_right ?_)))
  rw [List.mem_cons];exact ⟨fun h=>h.elim (fun ⟨e,h⟩=>⟨.inl e,e ▸ h⟩) fun h=>⟨.inr h.1,h.2⟩,fun ⟨q,h⟩=>q.elim (fun e=>.inl ⟨e,e ▸ h⟩) fun q=>.inr ⟨q,h⟩⟩
theorem s9 (kind:List (List (List Nat))) (texts:List (List Nat)) (x:List Nat):x ∈ aU kind texts ↔ x ∈ texts /\ ∃ p,p < x.length /\ jK kind texts x p:=by
 refine (vT kind texts x texts []).trans ⟨fun q=>q.elim (fun h=>nomatch h) fun ⟨h,p,hp,q⟩=>⟨h,p,List.mem_range.mp hp,q⟩,fun ⟨h,p,hp,q⟩=>.inr ⟨h,p,List.mem_range.mpr hp,q⟩⟩
theorem cls (hk:k = 1 \/ k = 2) (c:Nat):∀ m,m < 3->([c] ∈ (a6 k).getD m [] ↔ an c ∈ cq k /\ bg k (an c) = m):=by
 have hk:k ∈ [1,2]:=hk.elim (fun e=>e ▸ .head _) fun e=>e ▸ .tail _ (.head _)
 rcases lt_or_ge c 63 with h | h
 ·have:∀ k,k ∈ [1,2]->∀ c,c < 63->∀ m,m < 3->([c] ∈ (a6 k).getD m [] ↔ an c ∈ cq k /\ bg k (an c) = m):=by decide +kernel
  exact this k hk c h
 ·intro m hm;rw [rS h];have h1:∀ k ∈ [1,2],13 ∉ cq k:=by decide
  have h2:∀ k ∈ [1,2],∀ m,m < 3->∀ s ∈ (a6 k).getD m [],∀ x ∈ s,x < 63:=by decide +kernel
  exact ⟨fun q=>absurd (h2 k hk m hm _ q c (.head _)) (not_lt_of_le h),fun q=>absurd q.1 (h1 k hk)⟩
theorem uB (hk:k = 1 \/ k = 2):(a6 k).length = 3:=by rcases hk with rfl | rfl <;> rfl
theorem v8 (hk:k = 1 \/ k = 2) (q:List (List Nat)->Prop):(∀ s ∈ a6 k,q s) ↔ ∀ m,m < 3->q ((a6 k).getD m []):=by
 have h3:=uB hk;refine ⟨fun h m hm=>h _ (aF _ m [] (h3 ▸ hm)),fun h s hs=>?_⟩
 obtain ⟨m,hm,e⟩:=getElem_of_mem hs;have:=h m (h3 ▸ hm);rwa [ef _ hm,e] at this
theorem j7 {α:Type} (p:α->Bool) (l:List α):l.filter p ≠ [] ↔ ∃ x ∈ l,p x = true:=by
 rw [ne_eq,filter_eq_nil_iff];exact ⟨fun h=>Classical.byContradiction fun q=>h fun x hx hp=>q ⟨x,hx,hp⟩,fun ⟨x,hx,hp⟩ h=>h x hx hp⟩
theorem pN (texts:List (List Nat)) (t:List Nat) (p:Nat) (s:List Nat):s ∈ c9 texts t p ↔ ∃ u,u ∈ texts /\ u.take p = t.take p /\ p < u.length /\ [u.getD p 0] = s:=by
 unfold c9;rw [List.mem_map];refine exists_congr fun u=>?_
 rw [List.mem_filter,Bool.and_true,Bool.and_eq_true,decide_eq_true_eq,decide_eq_true_eq,and_assoc,and_assoc]
theorem r0 (hk:k = 1 \/ k = 2) (texts:List (List Nat)) (t:List Nat) (p:Nat):jK (a6 k) texts t p ↔
  (∀ m,m < 3->∃ u ∈ texts,u.take p = t.take p /\ p < u.length /\ an (u.getD p 0) ∈ cq k /\ bg k (an (u.getD p 0)) = m) /\ an (t.getD p 0) ∈ cq k:=by
 have h3:=uB hk;unfold jK kF;rw [<- h3,List.length_filter_eq_length_iff,v8 hk,h3];refine and_congr ⟨fun h m hm=>?_,fun h m hm=>?_⟩ ?_
 ·have h:=h m hm;rw [Bool.not_eq_true',decide_eq_false_iff_not] at h;obtain ⟨s,hs,hm2⟩:=(j7 _ _).mp h;obtain ⟨u,hu,e1,e2,rfl⟩:=(pN texts t p s).mp hs;exact ⟨u,hu,e1,e2,(cls hk _ m hm).mp (of_decide_eq_true hm2)⟩
 ·obtain ⟨u,hu,e1,e2,e3⟩:=h m hm;rw [Bool.not_eq_true',decide_eq_false_iff_not];exact (j7 _ _).mpr ⟨[u.getD p 0],(pN texts t p _).mpr ⟨u,hu,e1,e2,rfl⟩,decide_eq_true ((cls hk _ m hm).mpr e3)⟩
 ·rw [j7];constructor
  ·intro ⟨s,hs,hp⟩;have hp:=of_decide_eq_true hp;obtain ⟨m,hm,rfl⟩:=getElem_of_mem hs;rw [<- ef _ hm] at hp;exact ((cls hk _ m (h3 ▸ hm)).mp hp).1
  ·intro h;have hm:=fy k (an (t.getD p 0));exact ⟨_,aF (a6 k) (bg k (an (t.getD p 0))) [] (h3 ▸ hm),decide_eq_true ((cls hk _ _ hm).mpr ⟨h,rfl⟩)⟩
theorem mA:∀ a,a < 3->(a + 2) % 3 = ((a + 1) % 3 + 1) % 3:=by decide
theorem mB:∀ a,a < 3->a = ((a + 2) % 3 + 1) % 3:=by decide
theorem mC:∀ a,a < 3->a ≠ (a + 1) % 3:=by decide
theorem mV {v:List Int} (hv:VO v) {p:Nat} {a b:List Nat} (e0:a.take p = b.take p) (la:p < a.length) (lb:p < b.length) (ra:an (a.getD p 0) ∈ cq (aw v)) (rb:an (b.getD p 0) ∈ cq (aw v)) (e:bg (aw v) (an (b.getD p 0)) = (bg (aw v) (an (a.getD p 0)) + 1) % 3):tB v a b = true:=by
 rw [ug v la lb e0 fun z=>mC _ (fy _ _) (z ▸ e)]
 exact xT hv (y6 ra rb e)
theorem xh:k = 1 \/ k = 2 \/ a6 k = []:=
 match k with
 | 0=>.inr (.inr rfl)
 | 1=>.inl rfl
 | 2=>.inr (.inl rfl)
 | _ + 3=>.inr (.inr rfl)
theorem mD {v:List Int} (hv:VO v) (tok:aG texts) (t:List Nat) :
  t ∈ aU (a6 (aw v)) texts ↔ t ∈ texts /\ ∃ u ∈ texts,∃ w ∈ texts,tB v t u = true /\ tB v u w = true /\ tB v w t = true:=by
 rw [s9];refine and_congr_right fun ht=>⟨fun ⟨p,hp,h⟩=>?_,fun ⟨u,hu,w,hw,h1,h2,h3⟩=>?_⟩
 ·have hk:aw v = 1 \/ aw v = 2:=or_assoc.mpr xh |>.resolve_right fun e=>by
   rw [e] at h;exact nomatch h.1
  obtain ⟨ha,hr⟩:=(r0 hk texts t p).mp h;have lt3:=fy (aw v) (an (t.getD p 0));obtain ⟨u,hu,u1,u2,u3,u4⟩:=ha ((bg (aw v) (an (t.getD p 0)) + 1) % 3) (Nat.mod_lt _ (by decide))
  obtain ⟨w,hw,w1,w2,w3,w4⟩:=ha ((bg (aw v) (an (t.getD p 0)) + 2) % 3) (Nat.mod_lt _ (by decide))
  exact ⟨u,hu,w,hw,mV hv u1.symm hp u2 hr u3 u4,mV hv (u1.trans w1.symm) u2 w2 u3 w3 (by rw [u4,w4];exact mA _ lt3),mV hv w1 w2 hp w3 hr (by rw [w4];exact mB _ lt3)⟩
 ·have al:∀ {P:List Nat->Prop},P t->P u->P w->∀ k,k <= 3->P ([t,u,w,t].getD k []):=fun {P} a b c k hk=>ls (P:=fun k=>P ([t,u,w,t].getD k [])) (ls (ls (ls l0 a) b) c) a k (Nat.lt_succ_of_le hk)
  obtain ⟨p,R⟩:=mi hv (L:=3) (f:=fun k=>[t,u,w,t].getD k []) (by decide) rfl (al (P:=fun x=>x.length <= 4) (tok t ht).1 (tok u hu).1 (tok w hw).1)
   (ls (P:=fun k=>tB v ([t,u,w,t].getD k []) ([t,u,w,t].getD (k + 1) []) = true) (ls (ls l0 h1) h2) h3)
  refine ⟨p,R.len 0 (by decide),(r0 R.knd texts t p).mpr ⟨fun m hm=>?_,R.rc 0 (by decide)⟩⟩
  obtain ⟨k,hk,e⟩:=R.all m hm;exact ⟨[t,u,w,t].getD k [],al (P:=(· ∈ texts)) ht hu hw k hk,R.pre k hk,R.len k hk,R.rc k hk,e⟩
theorem nZ (x:Str):∀ l:List Str,(∀ y ∈ l,y = x)->l.foldl (fun acc k=>if k ∈ acc then acc else acc ++ [k]) [x] = [x]
 | [],_=>rfl
 | y :: l,h=>by
  rw [foldl_cons,h y (.head _),if_pos (by simp)]
  exact nZ x l fun z hz=>h z (.tail _ hz)
theorem wq {l:List Str} {x:Str} (hx:x ∈ l):cM l = 1 ↔ ∀ y ∈ l,y = x:=by
 constructor
 ·intro h y hy;unfold cM at h;obtain ⟨z,hz⟩:=List.length_eq_one_iff.mp h;have m:∀ w,w ∈ l->w = z:=fun w hw=>by
   have:w ∈ d7 l:=(mG l [] w).mpr (.inr hw);rw [hz] at this;exact List.mem_singleton.mp this
  rw [m y hy,m x hx]
 ·intro h
  cases l with
  | nil=>cases hx
  | cons a l=>
   have ea:=h a (.head _);subst ea;unfold cM d7;rw [foldl_cons,if_neg (by simp),List.nil_append,nZ a l fun y hy=>h y (.tail _ hy)]
   rfl
theorem zG {p:Nat->Nat->Prop} (a:p 1 0) (b:p 2 0) (c:p 2 1) (d:p 3 0) (e:p 3 1) (f:p 3 2) (g:p 4 0) (h:p 4 1) (k:p 4 2) (l:p 4 3) (i j:Nat) (hi:i < 5) (hj:j < i):p i j:=
 ls (P:=fun i=>∀ j,j < i->p i j) (ls (ls (ls (ls l0 l0) (ls l0 a)) (ls (ls l0 b) c)) (ls (ls (ls l0 d) e) f)) (ls (ls (ls (ls l0 g) h) k) l) i hi j hj
theorem ql (b:Nat->Nat->Bool) (irr:∀ i,b i i = false) (n:Nat) (hn:n <= 5) (anti:∀ i,i < n->∀ j,j < n->i ≠ j->b i j = !b j i) (l:List Bool) (h1:1 < n->l.getD 0 false = b 0 1) (h2:2 < n->l.getD 1 false = b 0 2) (h3:2 < n->l.getD 2 false = b 1 2) (h4:3 < n->l.getD 3 false = b 0 3) (h5:3 < n->l.getD 4 false = b 1 3) (h6:3 < n->l.getD 5 false = b 2 3) (h7:4 < n->l.getD 6 false = b 0 4) (h8:4 < n->l.getD 7 false = b 1 4) (h9:4 < n->l.getD 8 false = b 2 4) (h0:4 < n->l.getD 9 false = b 3 4):∀ i,i < n->∀ j,j < n->fS l j i = b j i:=by
 have h:∀ i,i < n->∀ j,j < i->l.getD (i * (i - 1) / 2 + j) false = b j i:=fun i hi j hj=>zG (p:=fun i j=>i < n->l.getD (i * (i - 1) / 2 + j) false = b j i) h1 h2 h3 h4 h5 h6 h7 h8 h9 h0 i j (Nat.lt_of_lt_of_le hi hn) hj hi
 clear h1 h2 h3 h4 h5 h6 h7 h8 h9 h0;intro i hi j hj;unfold fS;rcases Nat.lt_trichotomy j i with z | z | z
 ·rw [if_pos z,h i hi j z]
 ·rw [z,if_neg (Nat.lt_irrefl _),if_neg (Nat.lt_irrefl _),irr]
 ·rw [if_neg (lt_asymm z),if_pos z,h j hj i z,<- anti j hj i hi (ne_of_gt z)]
theorem zF (b:Nat->Nat->Bool) (hn:n <= 5) (irr:∀ i,b i i = false) (anti:∀ i,i < n->∀ j,j < n->i ≠ j->b i j = !b j i):∃ l,iC n (fS l) = true /\ ∀ i,i < n->∀ j,j < n->fS l j i = b j i:=
 ls (P:=fun n=>(∀ i,i < n->∀ j,j < n->i ≠ j->b i j = !b j i)->∃ l,iC n (fS l) = true /\ ∀ i,i < n->∀ j,j < n->fS l j i = b j i)
  (ls (ls (ls (ls (ls l0
   fun _=>⟨[],zJ _,l0⟩)
   fun a=>⟨[],zW _,ql b irr 1 (le_of_ble_eq_true rfl) a _ (nn rfl) (nn rfl) (nn rfl) (nn rfl) (nn rfl) (nn rfl) (nn rfl) (nn rfl) (nn rfl) (nn rfl)⟩)
   fun a=>⟨_,zH (b 0 1),ql b irr 2 (le_of_ble_eq_true rfl) a _ (fun _=>rfl) (nn rfl) (nn rfl) (nn rfl) (nn rfl) (nn rfl) (nn rfl) (nn rfl) (nn rfl) (nn rfl)⟩)
   fun a=>⟨_,zL (b 0 1) (b 0 2) (b 1 2),ql b irr 3 (le_of_ble_eq_true rfl) a _ (fun _=>rfl) (fun _=>rfl) (fun _=>rfl) (nn rfl) (nn rfl) (nn rfl) (nn rfl) (nn rfl) (nn rfl) (nn rfl)⟩)
   fun a=>⟨_,zY (b 0 1) (b 0 2) (b 1 2) (b 0 3) (b 1 3) (b 2 3),ql b irr 4 (le_of_ble_eq_true rfl) a _ (fun _=>rfl) (fun _=>rfl) (fun _=>rfl) (fun _=>rfl) (fun _=>rfl) (fun _=>rfl) (nn rfl) (nn rfl) (nn rfl) (nn rfl)⟩)
  (fun a=>⟨_,zO (b 0 1) (b 0 2) (b 1 2) (b 0 3) (b 1 3) (b 2 3) (b 0 4) (b 1 4) (b 2 4) (b 3 4),ql b irr 5 (Nat.le_refl _) a _ (fun _=>rfl) (fun _=>rfl) (fun _=>rfl) (fun _=>rfl) (fun _=>rfl) (fun _=>rfl) (fun _=>rfl) (fun _=>rfl) (fun _=>rfl) (fun _=>rfl)⟩) n (Nat.lt_succ_of_le hn) anti
structure zQ (n:Nat) (b:Nat->Nat->Bool) (res:Option (List Nat)):Prop where
 ok:fZ n (isT n b) = true
 srch:dR (gc (isT n b)) 40 ((isT n b).map (·.id)) ⟨[],[]⟩ = some res
 no:res = none->∀ i,i < n->in3 n b i = false
 yes:∀ r,res = some r->(∃ i,i < n /\ in3 n b i = true) /\ oV n b r = true
 run:ln n 10 ((aB (isT n b)).foldl aX (isT n b)) (aB (isT n b)) = some (mU n b)
theorem x7 {b:Nat->Nat->Bool} (h:iC n b = true):∃ res,zQ n b res:=by
 unfold iC at h;simp only [Bool.and_eq_true] at h;obtain ⟨⟨h1,h2⟩,h3⟩:=h;have hr:ln n 10 ((aB (isT n b)).foldl aX (isT n b)) (aB (isT n b)) = some (mU n b):=by
  split at h3
  ·rename_i l hl;rw [hl,eq_of_beq h3]
  ·cases h3
 split at h2
 ·rename_i hs;exact ⟨Option.none,h1,hs,fun _ i hi=>by
   have:=List.all_eq_true.mp h2 i (List.mem_range.mpr hi);simpa using this,(fun _ z=>nomatch z),hr⟩
 ·rename_i r hs;simp only [Bool.and_eq_true,List.any_eq_true,List.mem_range] at h2;exact ⟨some r,h1,hs,(fun z=>nomatch z),(fun r' z=>by cases z;exact h2),hr⟩
 ·cases h2
theorem mq {t:List Nat}:∀ {l:List (List Nat)},l.Nodup->t ∈ l->l.countP (fun y=>decide (y = t)) = 1
 | a :: l,h,hm=>by
  obtain ⟨h1,h2⟩:=List.nodup_cons.mp h;rcases List.mem_cons.mp hm with rfl | hm
  ·rw [List.countP_cons_of_pos (by simp)]
   have:l.countP (fun y=>decide (y = t)) = 0:=List.countP_eq_zero.mpr fun y hy e=>h1 (of_decide_eq_true e ▸ hy)
   omega
  ·rw [List.countP_cons_of_neg (by simp;exact fun e=>h1 (e ▸ hm))]
   exact mq h2 hm
theorem lu {α β:Type} (f:α->β) (l:List α) (k:Nat) (a:α) (b:β) (h:k < l.length):(l.map f).getD k b = f (l.getD k a):=by simp [List.getD,h]
theorem pQ {k:Nat} (hk:k = 1 \/ k = 2) {p:Nat}:∀ ring:List (List Nat),(∀ t ∈ ring,p < t.length /\ an (t.getD p 0) ∈ cq k)->aQ (a6 k) ring p = ring.map fun t=>bg k (an (t.getD p 0))
 | [],_=>rfl
 | t :: l,h=>by
  have ih:=pQ hk l fun u hu=>h u (.tail _ hu)
  obtain ⟨h1,h2⟩:=h t (.head _);unfold aQ at ih ⊢;rw [flatMap_cons,ih,map_cons];have e1:(t.drop p).take (p + 1 - p) = [t.getD p 0]:=by
   have e:t.getD p 0 = t[p]:=by simp [List.getD,h1]
   rw [e,drop_eq_getElem_cons h1];have:p + 1 - p = 1:=by omega
   rw [this];rfl
  have e3:(a6 k).length = 3:=by rcases hk with rfl | rfl <;> rfl
  have lt:=fy k (an (t.getD p 0));rw [e1,e3];have e4:((List.range 3).filter fun m=>decide ([t.getD p 0] ∈ (a6 k).getD m [])) = (List.range 3).filter fun m=>decide (bg k (an (t.getD p 0)) = m):=filter_congr fun m hm=>by
   have:=cls hk (t.getD p 0) m (List.mem_range.mp hm);exact decide_eq_decide.mpr (this.trans ⟨fun q=>q.2,fun q=>⟨h2,q⟩⟩)
  rw [e4];have e5:∀ x,x < 3->((List.range 3).filter fun m=>decide (x = m)) = [x]:=by decide
  rw [e5 _ lt];rfl
variable {v:List Int}
theorem qG (i:Nat) (hi:i < texts.length):(aP v texts).getD i [] = ((List.range texts.length).filter fun j=>tB v (texts.getD j []) (texts.getD i [])).map fun j=>texts.getD j []:=by
 rw [qN];rw [lu _ _ _ [] _ hi];have e:(List.range texts.length).map (fun j=>texts.getD j []) = texts:=by
  apply List.ext_getElem
  ·simp
  ·intro j h1 h2;simp [List.getD,h2]
 conv=>lhs;rw [<- e]
 rw [List.filter_map];rw [e];rfl
theorem zR:∀ a:Nat,a < 3->∀ c:Nat,c < 3->a = c \/ a = (c + 1) % 3->((a:Int) - (c:Int)) % 3 ≠ 2:=by decide
theorem vr {l:List (List Nat)} (nd:l.Nodup) (hi:i < l.length):l.idxOf (l.getD i []) = i:=
 have h:=List.idxOf_lt_length_iff.mpr (aF l i [] hi);i0 nd h hi (Option.some.inj ((bc l [] h).symm.trans ((List.getElem?_eq_getElem h).trans (congrArg some (List.getElem_idxOf h)))))
theorem oJ {α:Type} (l:List α) (k:Nat):(l.drop 1)[k]? = l[k + 1]?:=by rw [List.getElem?_drop,Nat.add_comm]
theorem oh {α:Type} {l:List α} (d:α) {k:Nat} (hk:k + 1 < l.length):l.getD (k + 1) d ∈ l.drop 1:=
 mem_of_getElem? ((oJ l k).trans (bc l d hk))
theorem tX (hv:VO v) (tok:aG texts) (nd:texts.Nodup) (hn:n = texts.length) (h5:n <= 5) {b:Nat->Nat->Bool} (hb:∀ i,i < n->∀ j,j < n->b j i = tB v (texts.getD j []) (texts.getD i [])) {r:List Nat} (hr:oV n b r = true) :
  ∃ p,qA (r.map fun j=>texts.getD j []) (a6 (aw v)) texts (aP v texts) p:=by
 clear h5;subst hn;unfold oV at hr;simp only [Bool.and_eq_true,decide_eq_true_eq,List.all_eq_true,beq_iff_eq] at hr;obtain ⟨⟨⟨⟨⟨l4,l6⟩,hlt⟩,hends⟩,hnd⟩,hst⟩:=hr;obtain ⟨L,hL⟩:∃ L,r.length = L + 1:=⟨_,(Nat.sub_add_cancel (Nat.le_trans (by decide) l4)).symm⟩
 have L1:1 <= L:=le_of_lt_succ (Nat.lt_of_lt_of_eq (Nat.le_trans (by decide) l4) hL)
 have lt:∀ {k},k <= L->k < r.length:=fun h=>hL ▸ Nat.lt_succ_of_le h
 have le:∀ {k},k < r.length->k <= L:=fun h=>le_of_lt_succ (Nat.lt_of_lt_of_eq h hL)
 have rlt:∀ k,k <= L->r.getD k 0 < texts.length:=fun k hk=>hlt _ (aF r k 0 (lt hk))
 have R:∀ k,k <= L->(r.map fun j=>texts.getD j []).getD k [] = texts.getD (r.getD k 0) []:=fun k hk=>lu (fun j=>texts.getD j []) r k 0 [] (lt hk)
 have ends:r.getD 0 0 = r.getD L 0:=by
  have:=congrArg (fun o:Option Nat=>o.getD 0) hends
  rw [List.head?_eq_getElem?,List.getLast?_eq_getElem?,hL] at this;exact this
 have stp:∀ k,k < L->tB v (texts.getD (r.getD k 0) []) (texts.getD (r.getD (k + 1) 0) []) = true:=fun k hk=>by
  rw [<- hb _ (rlt (k + 1) hk) _ (rlt k (le_of_lt hk))];exact hst (r.getD k 0,r.getD (k + 1) 0) (mem_of_getElem? (List.getElem?_zip_eq_some.mpr ⟨bc r 0 (lt (le_of_lt hk)),(oJ r k).trans (bc r 0 (lt hk))⟩))
 have rl:(r.map fun j=>texts.getD j []).length = r.length:=length_map _
 have sub:∀ t ∈ r.map fun j=>texts.getD j [],t ∈ texts:=fun t ht=>by
  obtain ⟨j,hj,rfl⟩:=List.mem_map.mp ht;exact aF texts j [] (hlt j hj)
 have rnd:((r.map fun j=>texts.getD j []).drop 1).Nodup:=by
  rw [<- map_drop];exact oi hnd fun a ha c hc e=>i0 nd (hlt a (List.mem_of_mem_drop ha)) (hlt c (List.mem_of_mem_drop hc)) e
 generalize (r.map fun j=>texts.getD j []) = rg at *
 clear hnd hst hends hlt hb;obtain ⟨p,F⟩:=mi hv (L:=L) (f:=fun k=>rg.getD k []) L1 (by
   show rg.getD 0 [] = rg.getD L [];rw [R 0 (zero_le _),R L (Nat.le_refl _),ends]) (fun k hk=>(tok _ (sub _ (aF rg k [] (rl ▸ lt hk)))).1) (fun k hk=>by
   show tB v (rg.getD k []) (rg.getD (k + 1) []) = true;rw [R k (le_of_lt hk),R (k + 1) hk];exact stp k hk)
 have at':∀ t ∈ rg,∃ k,k <= L /\ t = rg.getD k []:=fun t ht=>by
  obtain ⟨k,hk,e⟩:=getElem_of_mem ht;exact ⟨k,le (Nat.lt_of_lt_of_eq hk rl),Option.some.inj ((congrArg some e.symm).trans ((List.getElem?_eq_getElem hk).symm.trans (bc rg [] hk)))⟩
 have mem:∀ k,k <= L->rg.getD k [] ∈ rg:=fun k hk=>aF rg k [] (rl ▸ lt hk)
 have mks:=pQ F.knd (p:=p) rg fun t ht=>by
  obtain ⟨k,hk,rfl⟩:=at' t ht;exact ⟨F.len k hk,F.rc k hk⟩
 have pin:∀ q,cM (rg.map fun t=>S (t.take q)) = 1 ↔ ∀ k,k <= L->(rg.getD k []).take q = (rg.getD 0 []).take q:=fun q=>by
  rw [wq (List.mem_map.mpr ⟨_,mem 0 (zero_le _),rfl⟩)];refine ⟨fun h k hk=>oY (h _ (List.mem_map.mpr ⟨_,mem k hk,rfl⟩)),fun h y hy=>?_⟩
  obtain ⟨t,ht,rfl⟩:=List.mem_map.mp hy;obtain ⟨k,hk,rfl⟩:=at' t ht;rw [h k hk]
 have ml:(aQ (a6 (aw v)) rg p).length = r.length:=by rw [mks,length_map,rl]
 have mg:∀ k,k <= L->(aQ (a6 (aw v)) rg p).getD k 0 = bg (aw v) (an ((rg.getD k []).getD p 0)):=fun k hk=>by
  rw [mks,lu _ _ k [] 0 (rl ▸ lt hk)]
 have aok:∀ l ∈ aP v texts,aG l:=fun l hl t ht=>by
  unfold aP at hl;obtain ⟨u,_,rfl⟩:=List.mem_map.mp hl;exact tok t (List.mem_filter.mp ht).1
 refine ⟨p,⟨rl ▸ Nat.le_trans (by decide) l4,rl ▸ Nat.le_trans l6 (by decide)⟩,fun t ht=>tok t (sub t ht),?_,fun t ht=>mq rnd ?_,sub,by unfold aP;rw [length_map],aok,fun k h1 hk=>?_,F.plt,(pin p).mpr F.pre,fun q hq h=>F.max q hq ((pin q).mp h),ml.trans rl.symm,fun x hx=>?_,fun x hx=>?_,fun k h1 hk=>?_⟩
 ·rw [rl,hL,R 0 (zero_le _),Nat.add_sub_cancel,R L (Nat.le_refl _),ends]
 ·obtain ⟨k,hk,rfl⟩:=at' t ht
  cases k with
  | zero=>
   rw [R 0 hk,ends,<- R L (Nat.le_refl _),<- Nat.sub_add_cancel L1];exact oh _ (rl ▸ lt (le_of_eq (Nat.sub_add_cancel L1)))
  | succ k=>exact oh _ (rl ▸ lt hk)
 ·obtain ⟨k,rfl⟩:=Nat.exists_eq_add_of_le' h1;have hk:=le (Nat.lt_of_lt_of_eq hk rl);rw [Nat.add_sub_cancel,R (k + 1) hk,R k (le_of_lt hk),vr nd (rlt _ hk),qG _ (rlt _ hk)];exact List.mem_map.mpr ⟨_,List.mem_filter.mpr ⟨List.mem_range.mpr (rlt k (le_of_lt hk)),stp k hk⟩,rfl⟩
 ·rw [mks] at hx;obtain ⟨t,_,rfl⟩:=List.mem_map.mp hx;exact fy _ _
 ·obtain ⟨k,hk,e⟩:=F.all x hx;rw [mks,<- e];exact List.mem_map.mpr ⟨_,mem k hk,rfl⟩
 ·obtain ⟨k,rfl⟩:=Nat.exists_eq_add_of_le' h1;have hk:=le (Nat.lt_of_lt_of_eq hk ml);rw [Nat.add_sub_cancel,mg _ hk,mg k (le_of_lt hk)];exact zR _ (fy _ _) _ (fy _ _) (F.stp k hk)
theorem xM {b:Nat->Nat->Bool}:in3 n b i = true ↔ ∃ j,j < n /\ ∃ k,k < n /\ b i j = true /\ b j k = true /\ b k i = true:=by
 unfold in3;refine List.any_eq_true.trans (exists_congr fun j=>and_congr List.mem_range ?_)
 rw [Bool.and_eq_true,List.any_eq_true];exact ⟨fun ⟨h1,k,hk,h⟩=>⟨k,List.mem_range.mp hk,h1,Bool.and_eq_true_iff.mp h⟩,fun ⟨k,hk,h1,h⟩=>⟨h1,k,List.mem_range.mpr hk,Bool.and_eq_true_iff.mpr h⟩⟩
theorem qz {t:List Nat} (h:t ∈ texts):∃ i,i < texts.length /\ t = texts.getD i []:=by
 obtain ⟨i,hi,e⟩:=getElem_of_mem h;exact ⟨i,hi,e.symm.trans (ef [] hi).symm⟩
variable {ca:List (List Nat)} {ah:List (List (List Nat))} {b:Nat->Nat->Bool}
theorem yN (al:ah.length = texts.length) (ahd:∀ i,i < texts.length->ah.getD i [] = (ps i).map fun j=>texts.getD j []):texts.zip ah = (List.range texts.length).map fun i=>(texts.getD i [],(ps i).map fun j=>texts.getD j []):=by
 apply List.ext_getElem
 ·rw [length_zip,al,length_map,length_range,Nat.min_self]
 ·intro i h1 h2;have hi:i < texts.length:=by rwa [length_map,length_range] at h2
  rw [List.getElem_zip,List.getElem_map,List.getElem_range,<- ahd i hi,ef [] hi,ef [] (al ▸ hi)]
theorem ym (cau:∀ i,i < texts.length->(texts.getD i [] ∈ ca ↔ in3 texts.length b i = true)) (psm:∀ i,∀ j ∈ hU texts.length b i,j < texts.length) (i:Nat) (hi:i < texts.length):o3 ca (texts.getD i [],(hU texts.length b i).map fun j=>texts.getD j []) = o0 texts.length b i:=by
 unfold o3 o0;rw [Bool.and_true];refine congr (congrArg and (congrArg not (Bool.eq_iff_iff.mpr (decide_eq_true_iff.trans (cau i hi))))) (Bool.eq_iff_iff.mpr ?_)
 rw [decide_eq_true_eq,filter_eq_nil_iff,List.all_eq_true];constructor
 ·exact fun h j hj=>(Bool.not_eq_true' _).mpr (Bool.eq_false_iff.mpr fun q=>h _ ((cau j (psm i j hj)).mpr q) (decide_eq_true (List.mem_map.mpr ⟨j,hj,rfl⟩)))
 ·intro h t ht q;obtain ⟨j,hj,rfl⟩:=List.mem_map.mp (of_decide_eq_true q);exact absurd ((cau j (psm i j hj)).mp ht) (Bool.eq_false_iff.mp ((Bool.not_eq_true' _).mp (h j hj)))
theorem uS (nd:texts.Nodup) (al:ah.length = texts.length) (cau:∀ i,i < texts.length->(texts.getD i [] ∈ ca ↔ in3 texts.length b i = true)) (psm:∀ i,∀ j ∈ hU texts.length b i,j < texts.length) (ahd:∀ i,i < texts.length->ah.getD i [] = (hU texts.length b i).map fun j=>texts.getD j []) :
  ((mU texts.length b).map fun j=>texts.getD j []) = (List.range texts.length).flatMap fun (k:Nat)=>((texts.zip ah).filter fun q=>decide (q.1 ∈ eN ca texts ah) && (((q.2.length:Int) == (k:Int)) && true)).map (·.1):=by
 have ez:=yN al ahd;have fb:=ym cau psm;have fm:∀ i,i < texts.length->decide (texts.getD i [] ∈ eN ca texts ah) = o0 texts.length b i:=fun i hi=>by
  unfold eN;rw [ez,<- fb i hi];refine Bool.eq_iff_iff.mpr (decide_eq_true_iff.trans (List.mem_map.trans ⟨fun ⟨q,hq,e⟩=>?_,fun h=>⟨_,List.mem_filter.mpr ⟨List.mem_map.mpr ⟨i,List.mem_range.mpr hi,rfl⟩,h⟩,rfl⟩⟩))
  obtain ⟨hq1,hq2⟩:=List.mem_filter.mp hq;obtain ⟨j,hj,rfl⟩:=List.mem_map.mp hq1;exact i0 nd (List.mem_range.mp hj) hi e ▸ hq2
 generalize eN ca texts ah = fl at *;unfold mU;rw [List.map_flatMap];refine congrArg (fun f=>List.flatMap f (List.range texts.length)) (funext fun k=>?_)
 rw [ez,List.filter_map,map_map];refine congrArg (List.map fun j=>texts.getD j []) (filter_congr fun i hi=>?_)
 show _ = (decide (texts.getD i [] ∈ fl) && ((((((hU texts.length b i).map fun j=>texts.getD j []).length:Nat):Int) == (k:Int)) && true))
 rw [fm i (List.mem_range.mp hi),Bool.and_true,length_map];exact congrArg _ (Bool.eq_iff_iff.mpr (beq_iff_eq.trans (Int.ofNat_inj.symm.trans beq_iff_eq.symm)))
theorem vX {v:List Int} (hv:VO v) (tok:aG texts) (nd:texts.Nodup) (h5:texts.length <= 5):∃ ps is m res hnd,sh v texts ps is m res hnd:=by
 obtain ⟨l,hc,hb⟩:=zF (fun j i=>tB v (texts.getD j []) (texts.getD i [])) (n:=texts.length) h5 (fun i=>lP v _) (fun i hi j hj hne=>rV hv fun e=>hne (i0 nd hi hj e))
 generalize fS l = b at hc hb;replace hb:∀ i,i < texts.length->∀ j,j < texts.length->b j i = tB v (texts.getD j []) (texts.getD i []):=hb
 obtain ⟨res,T⟩:=x7 hc;have cin:∀ t ∈ aU (a6 (aw v)) texts,t ∈ texts:=fun t ht=>((mD hv tok t).mp ht).1
 have cau:∀ i,i < texts.length->(texts.getD i [] ∈ aU (a6 (aw v)) texts ↔ in3 texts.length b i = true):=fun i hi=>by
  rw [mD hv tok,xM];constructor
  ·intro ⟨_,u,hu,w,hw,h1,h2,h3⟩;obtain ⟨j,hj,rfl⟩:=qz hu;obtain ⟨k,hk,rfl⟩:=qz hw;exact ⟨j,hj,k,hk,(hb j hj i hi).trans h1,(hb k hk j hj).trans h2,(hb i hi k hk).trans h3⟩
  ·intro ⟨j,hj,k,hk,h1,h2,h3⟩;exact ⟨aF texts i [] hi,_,aF texts j [] hj,_,aF texts k [] hk,(hb j hj i hi).symm.trans h1,(hb k hk j hj).symm.trans h2,(hb i hi k hk).symm.trans h3⟩
 have rg:=fun r hr=>tX hv tok nd rfl h5 hb (T.yes r hr).2
 have ahd:∀ i,i < texts.length->(aP v texts).getD i [] = (hU texts.length b i).map fun j=>texts.getD j []:=fun i hi=>by
  rw [qG i hi];exact congrArg _ (filter_congr fun j hj=>(hb i hi j (List.mem_range.mp hj)).symm)
 have psm:∀ i,∀ j ∈ hU texts.length b i,j < texts.length:=fun i j hj=>List.mem_range.mp (List.mem_filter.mp hj).1
 have al:(aP v texts).length = texts.length:=by unfold aP;rw [length_map]
 refine ⟨hU texts.length b,isT texts.length b,40,res,mU texts.length b,hv.ok,tok,nd,h5,yh hv nd h5,ahd,fun i _=>psm i,fun i _=>Nat.le_trans (length_filter_le _ _) (length_range ▸ h5),rfl,T.ok,T.srch,⟨fun hn=>?_,fun hn=>?_⟩,rg,T.run,uS nd al cau psm ahd⟩
 ·refine List.eq_nil_iff_forall_not_mem.mpr fun t ht=>?_
  obtain ⟨i,hi,rfl⟩:=qz (cin t ht);exact absurd ((cau i hi).mp ht) (Bool.eq_false_iff.mp (T.no hn i hi))
 ·cases res with
  | none=>rfl
  | some r=>
   obtain ⟨⟨i,hi,h3⟩,_⟩:=T.yes r rfl;exact absurd ((cau i hi).mpr h3) (hn ▸ fun h=>nomatch h)
theorem pq (script:List Int):∃ ps is m res hnd,sh (c8 (aD script)) (fE (aD script)) ps is m res hnd:=
 vX (zs script) (i4 script).1 (i4 script).2.1 (i4 script).2.2
noncomputable def sR (w:World) (mg mb:Str->Option Value) (nb:Nat):Wd:=⟨PySem.Challenge.rw_oc0239_01.row.prog,w,hd.heap_39 w.params,mg,mb,202,nb,⟨227,38,227,137⟩,Str.ofString "_law_told.<locals>.<lambda>"⟩
noncomputable def sJ (nb:Nat) (h0a:Heap) (h:Heap):Prop:=∀ a o,a < nb->a ≠ 202->h0a.get? a = some o->h.get? a = some o
theorem wG {h:Heap} {a:Addr} {o:Obj} (e:h.get? a = some o):∀ n:Nat,(∀ a o,h.get? a = some o->a < n)->∃ nb:Nat,(∃ o,h.get? (nb - 1) = some o) /\ ∀ a o,h.get? a = some o->a < nb
 | 0,p=>absurd (p a o e) (Nat.not_lt_zero _)
 | n + 1,p=>by
  cases q:h.get? n with
  | some o'=>exact ⟨n + 1,⟨o',q⟩,p⟩
  | none=>exact wG e n fun b o' e'=>Nat.lt_of_le_of_ne (le_of_lt_succ (p b o' e')) fun z=>by subst z;rw [q] at e';cases e'
theorem rJ {P:Params} {h:Heap} {O:List Addr} {M:Addr->Prop}:∀ {vs:List Value} {ns:List Int},WellAll P h vs (ofPys (ns.map PyData.int))->am h O M vs (ns.map .int)
 | [],[],_=>.nil
 | _ :: _,[],w=>by simp only [map_nil,ofPys] at w;cases w
 | [],_ :: _,w=>by simp only [map_cons,ofPys] at w;cases w
 | v :: vs,n :: ns,w=>by
  simp only [map_cons,ofPys,ofPy] at w
  cases w with
  | cons a b=>
   cases a;exact .cons (.int _ _) (rJ b)
theorem xx {a:Addr} {ns:List Int} (w:Well P h (.ref a) (ofPy (.list (ns.map PyData.int)))) (hM:¬ M a):Den h O M (.ref a) (.list (ns.map .int)):=by
 simp only [ofPy] at w
 cases w with
 | list e r=>exact .list ⟨_,e⟩ hM (rJ r)
set_option maxHeartbeats 0 in
theorem wP {mg mb:Str->Option Value} {nb:Nat} (KX:(hd.heap_39 w.params).In h) (KT:h.get? 202 = some (tabObj #[])) (g:h.Ns mainGlobals mg) (b:h.Ns builtinsNs mb) (bi:∀ x:Str,x ≠ "__name__"->mb x = bootBuiltins x) (hlim:h.NoLimit) (hbt:h.BuiltinsAt mg 202)
  (ht:∃ o,h.get? (nb - 1) = some o) (hn:∀ a o,h.get? a = some o->a < nb) :
  Wok (sR w mg mb nb) (sJ nb h) /\ Gd (sR w mg mb nb) (sJ nb h) h /\ po (sR w mg mb nb) (sJ nb h) 204:=by
 have nsl:∀ {a m},h.Ns a m->a < nb:=fun n=>let ⟨_,_,_,e,_⟩:=n;hn _ _ e
 have C:CodeHd h 204 202:=codeHd_of_K KX (by with_unfolding_all rfl)
 refine ⟨⟨fun a o e=>hn _ _ (KX a o e),nsl g,nsl b,?_,hn _ _ KT,bi,by with_unfolding_all rfl,fun h' h'' x k a o la na e=>k a o la na (x a o la na e)⟩,⟨KX,g,b,hlim,?_,⟨#[],KT⟩,fun vs e=>?_,ht,fun a o _ _ e=>e⟩,⟨fun h' x=>?_,fun h' x=>?_⟩⟩
 ·obtain ⟨mc,n,_⟩:=hlim;exact nsl n
 ·obtain ⟨mc,n,_⟩:=hlim;refine ⟨mc,n,?_⟩
  obtain ⟨o,es,ep,e,hd',sk,hf⟩:=n;obtain ⟨c,d,es',n',sl,q,hq⟩:∃ c d es' n' sl,(hd.heap_39 w.params).lookup cStatics = some ⟨c,d,.dict es' n',sl⟩ /\ nsFind es' sharingNotToldKey = none:=⟨_,_,_,_,_,by with_unfolding_all rfl,by with_unfolding_all rfl⟩
  have:=KX _ _ q;rw [e] at this;cases this;cases hd';rw [<- hf];exact hq
 ·rw [show (sR w mg mb nb).tab = 202 from rfl,KT] at e
  cases e;exact ⟨trivial,.inl rfl⟩
 ·obtain ⟨o,vs,file,tf,flags,tg,inF,text,tt,e,r⟩:=C;exact ⟨o,vs,file,tf,flags,tg,inF,text,tt,x _ _ (hn _ _ e) (by decide) e,r⟩
 ·obtain ⟨bm,o,h1,h2,h3,h4,h5,r⟩:=hbt;exact ⟨bm,o,h1,h2,h3,h4,x _ _ (hn _ _ h5) h4 h5,r⟩
theorem zy {mg:Str->Option Value} (KT:h.get? 202 = some (tabObj #[])) (g:h.Ns mainGlobals mg) (hb:∃ bm ob,mg "__builtins__" = some (.ref bm) /\ bm ≠ builtinsNs /\ h.get? bm = some ob /\ ob.cls = .type "module" /\ ob.dict = some builtinsNs /\ ob.data = .plain):h.BuiltinsAt mg 202:=by
 obtain ⟨bm,ob,h1,h2,h3,h4,h5,h6⟩:=hb;refine ⟨bm,ob,h1,h2,?_,?_,h3,h4,h5,h6⟩
 ·rintro rfl
  obtain ⟨o,es,ep,e,hd',_⟩:=g;rw [h3] at e;cases e;rw [h6] at hd';cases hd'
 ·rintro rfl
  rw [KT] at h3;cases h3;cases h4
theorem xu {a:Addr}:¬ Mx Nox [] [] a:=by
 rintro (z | ⟨i,o,z,_⟩)
 ·exact z
 ·simp at z
end Mine
open Mine in
set_option maxHeartbeats 0 in
theorem PySem.Challenge.cw_oc0239_01_holds : PySem.Challenge.rw_oc0239_01.Holds := by
 refine holds_law zm fun said=>?_
 refine holds_open (q:=pwv) (loose:=[Str.ofString "_NodeInfo"]) (Xt:=fun s=>xlAt pwv [] s && recOk (RowW.records PySem.Challenge.rw_oc0239_01.row.toRowW) s) (XP:=XL pwv []) (Yf:=Hook.obs kH) (Ya:=Hook.val kH) (YP:=Hook.says kH) (N:=3044) zn (Hook.of kH) (Hook.keeps kH) (fun s e=>xl_of s (Bool.and_eq_true_iff.mp e).1) XL.keeps (by rfl) (by rfl) (by rfl) (fun s e=>recFacts_of (Bool.and_eq_true_iff.mp e).2) (by rfl) said (by decide +kernel) ⟨rfl,rfl,rfl,rfl,rfl,by decide +kernel⟩ ?hw ?hc
 case hw=>w_witness2
 intro w sZ sI mg mb G Y fa o pm cd doc dV kV ho hd1 hcd hD hmg hg args vals as hpre hlay hrd hwl hlo;have KX:=km_in_of Y;have KT:=km_tabs_of Y 202 (.head _);have GT:=G.T;clear Y hd1 hcd hD ho;have hm:mg (Str.ofString "law") = some (.ref fa):=hmg;clear hmg;have e227:=mg_of (n:=Str.ofString "law") (v:=.ref 227) KX GT.g (by with_unfolding_all rfl)
 have efa:fa = 227:=Value.ref.inj (Option.some.inj (hm.symm.trans e227));subst efa;clear hm e227;obtain ⟨nb,ht,hn⟩:=wG KT _ fun a o e=>Heap.lt_size e
 obtain ⟨hW,hG,lw⟩:=wP KX KT GT.g GT.b GT.builtins GT.nolimit (zy KT GT.g GT.bmain) ht hn;have C:CodeHd sI.heap 204 202:=codeHd_of_K KX (by with_unfolding_all rfl)
 clear GT G KX;wrow_args hpre hlay hrd hwl hlo
 refine enter_call ?_
 rename_i ns _ _ _ _ _ _ _ a _ _ _ _ wl _ _ _ hc _;have hlen:ns.length <= 63:=by omega
 obtain ⟨ps,is,m,res,hnd,pl⟩:=pq ns;refine (xO hW rfl lw rfl rfl ns (by omega) pl).code callerA sI [] [.ref a] ?_ rfl (zero_le _) ?_ ?_ _ fun v h' tk O' le R x d=>?_
 ·exact ⟨rfl,by decide +kernel,by decide +kernel⟩
 ·exact ⟨hG,fun a m=>m.elim,rfl,.nil,(fun a m=>nomatch m),(fun a m=>nomatch m),(fun a m=>nomatch m),fun i a o e=>by simp at e⟩
 ·exact .cons (xx wl xu) .nil
 ·cases d;refine ⟨.inl ⟨.bool true,.bool true,[],rfl,?_,.bool true,?_,?_⟩,⟨fun b o e=>?_,fun b o e=>?_⟩,rfl,?_⟩
  ·exact fun _=>rfl
  ·wrow_post
  ·exact fun _=>⟨.nil,fun _ h=>nomatch h⟩
  ·by_cases hb:b = 202
   ·subst hb;rw [KT] at e;cases e;obtain ⟨ps',e'⟩:=R.gd.tab;exact .inr (.inl ⟨(C.tab KT).isCodeTable,rfl,#[],ps',rfl,by rw [Array.empty_append];exact e'⟩)
   ·exact .inl (x.kp b o hb (fun z=>z.elim id fun z=>by obtain ⟨i,o,z,_⟩:=z;simp at z) e)
  ·exact Option.isSome_iff_exists.mp (x.grow b (by rw [e];rfl))
  ·show AllBare sI.gens;rw [hg];exact .of_eq rfl
