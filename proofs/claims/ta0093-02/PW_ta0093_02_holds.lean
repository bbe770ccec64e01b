import PyProof.Rows.All
import PyProof.ExcStrAll.ValueError
import PyProof.ExcStrCall
import PyProof.ListCopy
import PyProof.ListMulAny
import PyProof.ListRange
import PyProof.NsDelKeeps
import PyProof.ZipIter
import PyProof.Rows.StrOrd
import PyProof.Rows.SortWalk
import PyProof.Rows.SetListFold
import PyProof.Rows.SetFrom
import Open.Head
import KE.BytesMake
import KE.KBytesCut
import KE.KSortKey
import KE.KNestM
import KE.KSortAsk
import KE.KSortTup
import ObjForm.Fk.All
import Wide.FinOn
import OpenK.AllK
import Wide.All
import PySem.Challenge.RW_ta0093_02
set_option Elab.async false
set_option linter.all false
set_option maxRecDepth 100000
set_option maxHeartbeats 8000000
namespace Mine
open PySem PySem.Calls PyProof.Rows PySem.W
open Array (ext' getElem?_toList length_toList replicate size_push toList toList_append)
open Bool (and_eq_true and_eq_true_iff false_eq_true not_eq_true')
open Heap (get?_none_of_le get?_push_of_some get?_push_size get?_update_self lt_size)
open Int (natCast_nonneg not_lt ofNat_le ofNat_lt toNat toNat_natCast)
open List (all_eq_true append_nil drop_zero filterMap_cons filter_congr flatMap_cons foldl foldl_append foldl_cons forIn_cons forIn_nil getD_eq_getElem?_getD getElem?_eq_getElem getElem?_map getElem?_range getElem_mem head?_drop length length_append length_cons length_filter_le length_map length_range length_take lookup_append lookup_cons map_append map_congr_left map_cons map_drop map_inj_left map_map map_nil mem_append mem_append_left mem_append_right mem_cons mem_filter mem_map mem_of_getElem? mem_range mem_reverse mem_singleton nil_append nodup_append nodup_cons nodup_nil not_mem_nil pairwise_cons pairwise_map range' range_succ size_toArray take_add_one take_length toArray zip_cons_cons zip_nil_right)
open Nat (add_comm le_add_right le_antisymm le_of_eq le_of_lt le_refl le_succ le_trans lt_irrefl lt_of_le_of_lt lt_of_lt_of_le lt_succ_of_lt lt_succ_self lt_trans min_eq_left ne_of_gt ne_of_lt succ_le_succ succ_sub zero_add zero_le)
open Option (bind_eq_some_iff getD_none isSome_iff_exists map_eq_some_iff)
open PySem (wpAny_Call_method)
open Str (empty ofString)
theorem Vy (n : Nat) : ¬ (n : Int) < 0:=not_lt.mpr (natCast_nonneg n)
theorem Zn {a b : Nat} (h : decide ((a : Int) < b) = true) : a < b:=ofNat_lt.mp (of_decide_eq_true h)
theorem jh {a b : Nat} (h : decide ((a : Int) < b) = false) : b - a = 0:=Nat.sub_eq_zero_of_le (ofNat_le.mp (not_lt.mp (of_decide_eq_false h)))
theorem Y6 (a b : Nat) : ((a : Int) + b).fdiv 2 = (((a + b) / 2 : Nat) : Int):=by
 rw [Int.fdiv_eq_ediv_of_nonneg _ (by decide)]; rfl
theorem wW {a b : Nat} (h : a < b) : b - a = b - a - 1 + 1:=(Nat.sub_add_cancel (Nat.sub_pos_of_lt h)).symm
theorem Z6 {a b : Nat} (h : a < b) : (a + b) / 2 < b:=Nat.div_lt_of_lt_mul (by rw [Nat.two_mul]; exact Nat.add_lt_add_right h b)
theorem Jj {a b : Nat} (h : a < b) : a ≤ (a + b) / 2:=(Nat.le_div_iff_mul_le (by decide)).mpr (by rw [Nat.mul_two]; exact Nat.add_le_add_left (le_of_lt h) a)
theorem kY {a b n : Nat} (h : a < b) (e : b - a ≤ n + 1) : b - ((a + b) / 2 + 1) ≤ n :=
 le_trans (Nat.sub_le_sub_left (succ_le_succ (Jj h)) b) (Nat.sub_le_of_le_add (le_trans (Nat.sub_le_iff_le_add.mp e) (le_of_eq (by rw [Nat.add_assoc,add_comm 1 a]))))
theorem j6 {a b n : Nat} (h : a < b) (e : b - a ≤ n + 1) : (a + b) / 2 - a ≤ n :=
 Nat.le_of_lt_succ (lt_of_lt_of_le (Nat.sub_lt_sub_right (Jj h) (Z6 h)) e)
theorem zBS {a b m : Nat} (h : a < b) (e : (a + b) / 2 = m) : m < b ∧ b - (m + 1) ≤ b - a - 1 ∧ m - a ≤ b - a - 1 ∧ b - (m + 1) < b - a ∧ m - a < b - a:=by
 subst e
 have p:=le_of_eq (wW h)
 have q : ∀ {x},x ≤ b - a - 1 → x < b - a:=fun y => by rw [wW h]; exact Nat.lt_succ_of_le y
 exact ⟨Z6 h,kY h p,j6 h p,q (kY h p),q (j6 h p)⟩
theorem zAS (n : Nat) : max 0 (n : Int) = n:=Int.max_eq_right (natCast_nonneg n)
theorem Ku (a n : Nat) : max 0 (min (a : Int) (n : Int)) = ((min a n : Nat) : Int):=by
 rcases Nat.le_total a n with h | h
 · rw [min_eq_left h,Int.min_eq_left (ofNat_le.mpr h)]; exact Int.max_eq_right (natCast_nonneg _)
 · rw [Nat.min_eq_right h,Int.min_eq_right (ofNat_le.mpr h)]; exact Int.max_eq_right (natCast_nonneg _)
theorem qN {x : Int} (h : 0 ≤ x) : x = (x.toNat : Int):=(Int.toNat_of_nonneg h).symm
theorem Qe (n : Nat) : (-1 + ((n + 1 : Nat) : Int)).toNat = n:=congrArg toNat (show -1 + ((n : Int) + 1) = n by rw [Int.add_comm,Int.add_neg_cancel_right])
theorem K4 : ∀ n : Nat,max 0 (min (-1 + (n : Int)) (n : Int)) = ((n - 1 : Nat) : Int)
 | 0 => by decide
 | n + 1 => by rw [show (-1 + ((n + 1 : Nat) : Int)) = n by omega,Int.min_eq_left (ofNat_le.mpr (le_succ n)),zAS]; rfl
theorem jw {n : Nat} (h : n < 9000000000000000000) : (n : Int) < 2 ^ 63:=Int.lt_of_lt_of_le (ofNat_lt.mpr h) (by decide)
theorem zBm {n : Nat} (h : 1 ≤ n) : (-1 + (n : Int)).toNat = n - 1:=by
 cases n with
 | zero => cases h
 | succ n => rw [show (-1 + ((n + 1 : Nat) : Int)) = n by omega]; rfl
theorem zBj {k n : Nat} (h : k < n) : seqIndex? (k : Int) n = some k:=by
 unfold seqIndex?
 simp only [if_neg (Vy k),toNat_natCast]
 exact if_pos (by rw [decide_eq_true (natCast_nonneg k),decide_eq_true (ofNat_lt.mpr h)]; rfl)
theorem KL {n : Nat} (h : 1 ≤ n) : seqIndex? (-1) n = some (n - 1):=by
 cases n with
 | zero => cases h
 | succ n =>
  rw [Nat.add_sub_cancel,← zBj (lt_succ_self n)]
  unfold seqIndex?
  rw [if_pos (show (-1 : Int) < 0 by decide),if_neg (Vy n),show (-1 + ((n + 1 : Nat) : Int)) = n by omega]
theorem KV {b i k r : Nat} (h : b - i = k + 1 + r) : k < b + 1 - (i + 1):=by rw [Nat.add_sub_add_right,h]; exact lt_of_lt_of_le (lt_succ_self k) (le_add_right _ _)
theorem QE {v z' z'' : Int} {z : Nat} (h : 0 ≤ v) (e : (z : Int) = z') (q : z'' ≤ z') (t : v < z'') : v.natAbs < z:=ofNat_lt.mp (by rw [Int.natAbs_of_nonneg h,e]; exact Int.lt_of_lt_of_le t q)
noncomputable def zAL : Stmt → List Stmt
 | .FunctionDef _ _ b _ _ _ _ _ _ _ => b
 | .ClassDef _ _ _ b _ _ _ _ _ _ _ => b
 | .For _ _ b _ _ => b
 | .If _ b _ _ => b
 | .Try b _ _ _ _ => b
 | _ => []
noncomputable abbrev zB:=zAL
noncomputable abbrev KH:=zAL
noncomputable abbrev YZ:=zAL
noncomputable def wd : Stmt → Arguments
 | .FunctionDef _ a _ _ _ _ _ _ _ _ => a
 | _ => { posonlyargs:=[],args:=[],vararg:=none,kwonlyargs:=[],kw_defaults:=[],kwarg:=none,defaults:=[] }
noncomputable def zR : Stmt → Scope
 | .FunctionDef _ _ _ _ _ _ sc _ _ _ => sc
 | _ => { kind:=.module,names:=[],isGenerator:=false,isCoroutine:=false,more:=[] }
noncomputable def yF (p : Program) (n : Nat) : Stmt:=p.main.body.getD n (.Pass ⟨0,0,0,0⟩)
noncomputable abbrev W8 : Stmt:=.Pass ⟨0,0,0,0⟩
noncomputable def fnO (h : Heap) (a : Addr) : Option (Value × FuncData):=(h.get? a).bind fun o => match o.data with
 | .func fd => some (o.cls,{ fd with name:=empty,doc:=.none,pyModule:=.none,annotations:=none,closureTuple:=.none })
 | _ => none
noncomputable def W2 (h : Heap) (c : Addr) : Option Str:=(h.get? c).bind fun o => match o.data with
 | .fields vs => (match (vs[1]? : Option Value) with | some (.str q _) => some q | _ => none)
 | _ => none
structure FnS where
 d : Stmt
 f : Addr
 c : Addr
 q : Str
 dfl : Value
 kwd : Value
noncomputable def FnS.fd (x : FnS) : FuncData:={ name:=empty,qualname:=x.q,params:=wd x.d,body:=.stmts (zB x.d),scope:=zR x.d,globals:=mainGlobals,closure:=[],defaults:=x.dfl,kwdefaults:=x.kwd,code:=.ref x.c,builtins:=builtinsNs }
noncomputable def QG (h : Heap) (a : Addr) : Option (Value × Option Addr × Nat × Nat × Array Nat):=(h.get? a).bind fun o => match o.data with
 | .fields vs => (match vs.getD 5 .none with
  | .ref c => (match h.get? c with
   | some ⟨_,_,.seq its _,_⟩ => some (o.cls,o.dict,Builtin.Re.reRawNat (vs.getD 6 .none),Builtin.Re.reRawNat (vs.getD 2 .none),(its.map Builtin.Re.reRawOf).map (·.toNat))
   | _ => none)
  | _ => none)
 | _ => none
noncomputable def KB (h : Heap) (a : Addr) : Option (Value × List Value × Addr × Bool × Bool × Bool × Nat × Option Value):=(h.get? a).bind fun o => match o.data with
 | .cls c => some (o.cls,c.mro,c.ns,c.hasDict,c.abstract,c.hasDel,o.slots.toList.length,(o.slots.toList[4]?).getD none)
 | _ => none
noncomputable def zAr (e : DictEntry) : Option (Int × Int × Str):=match e.key,e.val with
 | .int k _,.str x _ => some (e.hash,k,x)
 | _,_ => none
noncomputable def Wc (h : Heap) (a : Addr) : Option (Value × Option Addr × List (Option Value) × List (Option (Int × Int × Str))):=(h.get? a).bind fun o => match o.data with
 | .dict es _ => some (o.cls,o.dict,o.slots.toList,es.toList.map zAr)
 | _ => none
noncomputable def chO (h : Heap) (c P : Addr) : Bool:=match h.get? c with
 | some o => codeHdIn [(c,o)] c P
 | none => false
noncomputable def KN (h : Heap) (a : Addr) : Option (Value × Option Addr × Bool):=(h.get? a).map fun o => (o.cls,o.dict,match o.data with | .plain => true | _ => false)
noncomputable def X8 (h : Heap) (a : Addr) : List Value:=match h.get? a with
 | some o => (match o.data with | .seq its _ => its.toList | _ => [])
 | none => []
noncomputable def zV : Value → Bool
 | .int i _ => i == 0
 | _ => false
noncomputable def nV : Value → Bool
 | .none => true
 | _ => false
noncomputable def Qa (h : Heap) (a : Addr) : Bool:=(X8 h a).length == 2 && zV ((X8 h a).getD 0 .none) && nV ((X8 h a).getD 1 (.bool true))
noncomputable def VM (v : Option Value) : Option Str:=match v with
 | some (.str x _) => some x
 | _ => none
noncomputable def Qy (h : Heap) (a : Addr) : Bool:=(X8 h a).length == 1 && nV ((X8 h a).getD 0 (.bool true))
noncomputable def Zl (d : Stmt) (f c : Addr) (q : String) (dfl kwd : Value:=.none) : FnS:=⟨d,f,c,ofString q,dfl,kwd⟩
noncomputable def zX : Str:=ofString "..."
noncomputable def jB : List (Int × Str):=[(1,"OPTIMIZED"),(2,"NEWLOCALS"),(4,"VARARGS"),(8,"VARKEYWORDS"),(16,"NESTED"),(32,"GENERATOR"),(64,"NOFREE"),(128,"COROUTINE"),(256,"ITERABLE_COROUTINE"),(512,"ASYNC_GENERATOR")]
noncomputable def za : Array Nat:=#[14,10,4,1,1,22,0,31,16,127,0,13,7,22,0,31,16,127,0,1]
noncomputable def zm : Array Nat:=#[14,14,4,1,1,9,4294966783,0,0,2147483648,0,0,0,0,0,13,11,9,4294966783,0,0,2147483648,0,0,0,0,0,1]
noncomputable def zS (h h' : Heap) : Prop:=∀ a o,h.get? a = some o → h'.get? a = some o
theorem zS.refl (h : Heap) : zS h h:=fun _ _ e => e
theorem zS.trans {a b c : Heap} (x : zS a b) (y : zS b c) : zS a c:=fun p o e => y p o (x p o e)
noncomputable def pw : Program:=PySem.Challenge.pw_ta0093_02
noncomputable abbrev Jo:=yF pw 23
noncomputable abbrev brS:=yF pw 22
noncomputable abbrev shS:=yF pw 24
noncomputable abbrev WR:=yF pw 8
noncomputable abbrev Xn:=yF pw 7
noncomputable abbrev YL:=yF pw 4
noncomputable abbrev flS:=yF pw 11
noncomputable abbrev xC (i : Nat) : Stmt:=(KH (yF pw 18)).getD i (.Pass ⟨0,0,0,0⟩)
noncomputable abbrev KA:=yF pw 6
noncomputable abbrev zv:=yF pw 25
noncomputable abbrev zBM:=yF pw 20
noncomputable abbrev pvS:=yF pw 12
noncomputable abbrev rdS:=yF pw 21
noncomputable def fns : List FnS:=[Zl KA 54 53 "insort_right" (.ref 46) (.ref 47),Zl Xn 63 62 "bisect_right" (.ref 55) (.ref 56),Zl WR 72 71 "bisect_left" (.ref 64) (.ref 65),Zl flS 80 79 "pretty_flags",Zl pvS 87 86 "_parse_varint",Zl YL 45 44 "_ellipsis_match",
 Zl zBM 240 239 "_law_octets",Zl rdS 247 246 "_law_read",Zl brS 252 251 "_law_breaks",Zl Jo 257 256 "_law_learn",Zl zv 269 268 "law",Zl shS 264 263 "_law_shut",
 Zl (xC 0) 125 124 "Headers.__init__" (.ref 118),Zl (xC 1) 132 131 "Headers._convert_string_type",Zl (xC 7) 170 169 "Headers.get_all",Zl (xC 9) 183 182 "Headers.keys",Zl (xC 10) 188 187 "Headers.values",Zl (xC 11) 195 194 "Headers.items",Zl (xC 16) 228 227 "Headers.add_header"]
noncomputable def glL : List (Str × Option Addr):=([("insort_right",some 54),("bisect_right",some 63),("bisect_left",some 72),("pretty_flags",some 80),("_parse_varint",some 87),("_ellipsis_match",some 45),("_law_octets",some 240),("_law_read",some 247),("_law_breaks",some 252),("_law_learn",some 257),("law",some 269),("_law_shut",some 264),
 ("Headers",some 231),("COMPILER_FLAG_NAMES",some 73),("_name_disallowed_re",some 97),("_value_disallowed_re",some 102),("__builtins__",some 4)] : List (String × Option Addr)).map fun p => (ofString p.1,p.2)
noncomputable def blL : List (Str × Value):=([("len",.builtin "len"),("range",.type "range"),("sum",.builtin "sum"),("bytes",.type "bytes"),("sorted",.builtin "sorted"),("set",.type "set"),("chr",.builtin "chr"),("zip",.type "zip"),("ValueError",.type "ValueError"),("iter",.builtin "iter"),("next",.builtin "next"),("StopIteration",.type "StopIteration"),("hex",.builtin "hex"),("type",.type "type"),("str",.type "str"),("list",.type "list")] : List (String × Value)).map fun p => (ofString p.1,p.2)
noncomputable def clL : List (Str × Option Addr):=([("__getattribute__",none),("__getattr__",none),("__setattr__",none),("_headers",none),("__init__",some 125),("_convert_string_type",some 132),("get_all",some 170),("keys",some 183),("values",some 188),("items",some 195),("add_header",some 228)] : List (String × Option Addr)).map fun p => (ofString p.1,p.2)
noncomputable def okL (h : Heap) : List Bool:=[h.isNs mainGlobals,h.isNs builtinsNs,h.isNs cStatics,h.isNs 230,h.isNs 47,h.isNs 56,h.isNs 65,Qa h 46,Qa h 55,Qa h 64,chO h 256 254,chO h 268 266,(h.get? sysModules).isSome,(h.nsMap cStatics "sys.recursionlimit").isNone,Qy h 118]
noncomputable abbrev zAx:=List (Option (Value × FuncData) × Option Str) × List (Option Value) × List (Option Value × Option Value) × List (Option Value) × Bool × List (Option Value) × Option Str × Option (Value × Option Addr × Nat × Nat × Array Nat) × Option (Value × Option Addr × Nat × Nat × Array Nat) × Option (Value × List Value × Addr × Bool × Bool × Bool × Nat × Option Value) × Option (Value × Option Addr × List (Option Value) × List (Option (Int × Int × Str))) × Option (Value × Option Addr × Bool)
noncomputable def Ki (h : Heap) : zAx:=(fns.map fun x => (fnO h x.f,W2 h x.c),glL.map fun p => h.nsMap mainGlobals p.1,blL.map fun p => (h.nsMap mainGlobals p.1,h.nsMap builtinsNs p.1),clL.map fun p => h.nsMap 230 p.1,(okL h).all _root_.id,[47,56,65].map fun a => h.nsMap a "key",VM (h.nsMap mainGlobals "ELLIPSIS_MARKER"),QG h 97,QG h 102,KB h 231,Wc h 73,KN h 4)
noncomputable def KJ : zAx:=(fns.map fun x => (some (.type "function",x.fd),some x.q),glL.map fun p => p.2.map Value.ref,blL.map fun p => (none,some p.2),clL.map fun p => p.2.map Value.ref,true,[47,56,65].map fun _ => some .none,some zX,some (.type "re.Pattern",none,0,0,za),some (.type "re.Pattern",none,0,0,zm),some (.type "type",[.ref 231,.type "object"],230,true,false,false,6,some (.builtin "object.__new__")),some (.type "dict",none,[],jB.map fun p => some (hashInt p.1,p.1,p.2)),some (.type "module",some builtinsNs,true))
noncomputable def xH : List Addr:=[266,254]
noncomputable def wO : Hook where
 α:=zAx × List (Option Obj)
 obs:=fun s => (Ki (hideAll s.heap xH),xH.map s.heap.get?)
 val:=fun _ => (KJ,xH.map fun _ => some (tabObj #[]))
 says:=fun _ h => ∃ B₀,Ki (hideAll B₀ xH) = KJ ∧ (∀ a ∈ xH,B₀.get? a = some (tabObj #[])) ∧ zS B₀ h
 of:=fun _ s e => ⟨s.heap,(Prod.mk.inj e).1,map_inj_left.mp (Prod.mk.inj e).2,zS.refl _⟩
 keeps:=fun _ h h' x k => let ⟨B₀,a,b,c⟩:=x; ⟨B₀,a,b,c.trans k⟩
noncomputable def qv : Program:=view pw [0,25]
noncomputable def qF : List Str:=["_wall","__name__","insort_right","bisect_right","bisect_left","COMPILER_FLAG_NAMES","pretty_flags","_parse_varint","ELLIPSIS_MARKER","_ellipsis_match","tspecials","_name_disallowed_re","_value_disallowed_re","_formatparam","Headers","_law_octets","_law_read","_law_breaks","_law_learn","_law_shut"].map ofString
abbrev Vb : PySem.W.OpenLaw:=PySem.Challenge.rw_ta0093_02
noncomputable def xtL (s : Shared) : Bool:=PySem.W.xlAt qv [] s && recOk (RowW.records Vb.row.toRowW) s
theorem KW {α β γ : Type} {x : Option α} {f : α → β} {g : α → γ} {a : β} {b : γ} (h : x.map f = some a) (k : x.map g = some b) : x.map (fun s => (f s,g s)) = some (a,b):=by
 obtain ⟨s,rfl,rfl⟩:=map_eq_some_iff.mp h
 cases k
 rfl
set_option maxHeartbeats 0 in
theorem zBG (w : World) : (fencedOpening treeTable Vb.row.prog w 3400).map (fun s₀ => (topFrom treeTable Vb.row.prog (w.withFollow "special-get-raises" false) 3400 s₀).map (fun s => (openSeen qv qF (importedModules Vb.row.prog.main.body) xtL true s,wO.obs s))) = some (some (openGood qv qF,wO.val (w.withFollow "special-get-raises" false))):=by kernel_rfl
set_option maxHeartbeats 0 in
theorem zBI (w : World) : (fencedOpening treeTable Vb.row.prog w 3400).map (fun s₀ => (topFrom treeTable Vb.row.prog (w.withFollow "special-get-raises" true) 3400 s₀).map (fun s => (openSeen qv qF (importedModules Vb.row.prog.main.body) xtL true s,wO.obs s))) = some (some (openGood qv qF,wO.val (w.withFollow "special-get-raises" true))):=by kernel_rfl
theorem left : LeftO Vb.row.prog qv qF xtL wO.obs wO.val 3400:=LeftO.of_split "special-get-raises" fun w => KW (zBG w) (zBI w)
set_option maxHeartbeats 0 in
theorem zB6 : Vb.wellSaid = true:=by kernel_rfl
theorem head (hc : ∀ d,(d.name = ofString "law") → WalkO qv qF (XL qv []) wO.says Vb.row.toRowW d [] fun f vs => PySem.call f vs) : Vb.Holds:=by
 have e1 : (defOf qv (ofString "law")).map (fun x => (x.1.name,x.2,some (x.1.params,x.1.body,x.1.scope),kwWritten? x.1.params.kwonlyargs x.1.params.kw_defaults)) = some (ofString "law",[],pw.theDef (ofString "law"),some []):=by kernel_rfl
 obtain ⟨⟨d,kwd⟩,hd,e1⟩:=map_eq_some_iff.mp e1
 simp only [Prod.mk.injEq] at e1
 obtain ⟨e1,e2,e3,e4⟩:=e1
 subst e2
 refine holds_law zB6 fun sd => ?_
 refine holds_open (r:=Vb.row) (q:=qv) (loose:=qF) (Xt:=xtL) (XP:=XL qv []) (Yf:=wO.obs) (Ya:=wO.val) (YP:=wO.says) (N:=3400) (d:=d) (kwd:=[]) left wO.of wO.keeps (fun s e => xl_of s (and_eq_true_iff.mp e).1) XL.keeps hd e3.symm e4 (fun s e => recFacts_of (and_eq_true_iff.mp e).2) (by rfl) sd ?h4 ⟨rfl,rfl,rfl,rfl,rfl, ?h5⟩ ?hw (hc d e1)
 case h4 => kernel_rfl
 case h5 => decide +kernel
 case hw => w_witness2
open PySem PySem.Calls PyProof.Rows
noncomputable abbrev qV (b : Array UInt8) (t : Tok) (i : Nat) : Obj:={ cls:=.type "bytes_iterator",data:=.fields #[.bytes b t,.int i 0] }
inductive D where
 | none
 | bool (b : Bool)
 | int (i : Int)
 | str (s : Str)
 | bytes (b : Array UInt8)
 | list (xs : List D)
 | tup (xs : List D)
 | dct (ks : List Str) (xs : List D)
 | rng (a b c : Int)
 | typ (n : String)
 | ob (a : Addr) (o : Obj)
 | bit (b : Array UInt8) (i : Nat)
 | obs (a : Addr) (o : Obj) (os : List (Addr × Obj))
noncomputable abbrev K9 (h : Heap) (a : Addr) (vs : List Value) : Prop:=∃ n,h.get? a = some { cls:=.type "tuple",dict:=none,data:=.seq vs.toArray n,slots:=#[] }
section
variable (prog : Program) (w : World) (h : Heap) (M : Addr → Prop)
mutual
inductive Rp : Value → D → Prop
 | none : Rp Value.none D.none
 | bool (b : Bool) : Rp (Value.bool b) (D.bool b)
 | int (i : Int) (t : Tok) : Rp (Value.int i t) (D.int i)
 | str (x : Str) (t : Tok) : Rp (Value.str x t) (D.str x)
 | bytes (b : Array UInt8) (t : Tok) : Rp (Value.bytes b t) (D.bytes b)
 | typ (n : String) : Rp (Value.type n) (D.typ n)
 | list {a : Addr} {vs : List Value} {ds : List D} : h.PlainList a vs.toArray → ¬ M a → zH vs ds → Rp (Value.ref a) (D.list ds)
 | tup {a : Addr} {vs : List Value} {ds : List D} : K9 h a vs → ¬ M a → zH vs ds → Rp (Value.ref a) (D.tup ds)
 | dct {a : Addr} {ks : List Str} {vs : List Value} {ds : List D} : h.DictOf (strKind prog w) a (ks.zip vs) → ks.length = vs.length → (a == sysModules) = false → ¬ M a → zH vs ds → Rp (Value.ref a) (D.dct ks ds)
 | rng {r : Addr} {a b c : Int} {t u v : Tok} : IsRange h r a b c t u v → ¬ M r → Rp (Value.ref r) (D.rng a b c)
 | bit {a : Addr} {b : Array UInt8} {t : Tok} {i : Nat} : h.get? a = some (qV b t i) → ¬ M a → Rp (Value.ref a) (D.bit b i)
 | ob {a : Addr} {o : Obj} : h.get? a = some o → ¬ M a → Rp (Value.ref a) (D.ob a o)
 | obs {a : Addr} {o : Obj} {os : List (Addr × Obj)} : h.get? a = some o → ¬ M a → (∀ p ∈ os,h.get? p.1 = some p.2 ∧ ¬ M p.1) → Rp (Value.ref a) (D.obs a o os)
inductive zH : List Value → List D → Prop
 | nil : zH [] []
 | cons {v : Value} {vs : List Value} {d : D} {ds : List D} : Rp v d → zH vs ds → zH (v :: vs) (d :: ds)
end
end
section
variable {prog : Program} {w : World} {h h' : Heap} {M M' : Addr → Prop}
theorem jJ {K : Type} [DecidableEq K] {knd : KeyKind prog w K} {a : Addr} {kvs : List (K × Value)} (x : h.DictOf knd a kvs) (e : ∀ o,h.get? a = some o → h'.get? a = some o) : h'.DictOf knd a kvs :=
 let ⟨o,es,ep,ho,r⟩:=x; ⟨o,es,ep,e o ho,r⟩
noncomputable def RpI (h : Heap) (M : Addr → Prop) (All : List Value → List D → Prop) (Dct : Addr → List Str → List Value → Prop) (v : Value) : D → Prop
 | .none => v = .none
 | .bool b => v = .bool b
 | .int i => ∃ t,v = .int i t
 | .str x => ∃ t,v = .str x t
 | .bytes x => ∃ t,v = .bytes x t
 | .typ n => v = .type n
 | .list ds => ∃ a vs,v = .ref a ∧ h.PlainList a vs.toArray ∧ ¬ M a ∧ All vs ds
 | .tup ds => ∃ a vs,v = .ref a ∧ K9 h a vs ∧ ¬ M a ∧ All vs ds
 | .dct ks ds => ∃ a vs,v = .ref a ∧ Dct a ks vs ∧ ks.length = vs.length ∧ (a == sysModules) = false ∧ ¬ M a ∧ All vs ds
 | .rng a b c => ∃ r t u x,v = .ref r ∧ IsRange h r a b c t u x ∧ ¬ M r
 | .bit b i => ∃ a t,v = .ref a ∧ h.get? a = some (qV b t i) ∧ ¬ M a
 | .ob a o => v = .ref a ∧ h.get? a = some o ∧ ¬ M a
 | .obs a o os => v = .ref a ∧ h.get? a = some o ∧ ¬ M a ∧ ∀ p ∈ os,h.get? p.1 = some p.2 ∧ ¬ M p.1
theorem Rp.inv {v : Value} {d : D} (r : Rp prog w h M v d) : RpI h M (zH prog w h M) (fun a ks vs => h.DictOf (strKind prog w) a (ks.zip vs)) v d :=
 Rp.casesOn (motive_1:=fun v d _ => RpI h M (zH prog w h M) (fun a ks vs => h.DictOf (strKind prog w) a (ks.zip vs)) v d) r rfl (fun _ => rfl) (fun _ t => ⟨t,rfl⟩) (fun _ t => ⟨t,rfl⟩) (fun _ t => ⟨t,rfl⟩) (fun _ => rfl) (fun e m q => ⟨_,_,rfl,e,m,q⟩) (fun e m q => ⟨_,_,rfl,e,m,q⟩) (fun e l g m q => ⟨_,_,rfl,e,l,g,m,q⟩) (fun e m => ⟨_,_,_,_,rfl,e,m⟩) (fun e m => ⟨_,_,rfl,e,m⟩) (fun e m => ⟨rfl,e,m⟩) (fun e m q => ⟨rfl,e,m,q⟩)
noncomputable def Qc (R : Value → D → Prop) (All : List Value → List D → Prop) (vs : List Value) : List D → Prop
 | [] => vs = []
 | d :: ds => ∃ u us,vs = u :: us ∧ R u d ∧ All us ds
theorem zH.inv {vs : List Value} {ds : List D} (r : zH prog w h M vs ds) : Qc (Rp prog w h M) (zH prog w h M) vs ds :=
 zH.casesOn (motive_2:=fun vs ds _ => Qc (Rp prog w h M) (zH prog w h M) vs ds) r rfl fun x q => ⟨_,_,rfl,x,q⟩
theorem Rp.to (hk : ∀ a o,¬ M a → h.get? a = some o → h'.get? a = some o ∧ ¬ M' a) {v : Value} {d : D} (r : Rp prog w h M v d) : Rp prog w h' M' v d :=
 Rp.rec (motive_1:=fun v d _ => Rp prog w h' M' v d) (motive_2:=fun vs ds _ => zH prog w h' M' vs ds) .none .bool .int .str .bytes .typ (fun ⟨n,e⟩ m _ r => .list ⟨n,(hk _ _ m e).1⟩ (hk _ _ m e).2 r) (fun ⟨n,e⟩ m _ r => .tup ⟨n,(hk _ _ m e).1⟩ (hk _ _ m e).2 r) (fun x l g m _ r => .dct (jJ x fun o e => (hk _ o m e).1) l g (let ⟨o,_,_,e,_⟩:=x; (hk _ o m e).2) r) (fun e m => .rng (hk _ _ m e).1 (hk _ _ m e).2) (fun e m => .bit (hk _ _ m e).1 (hk _ _ m e).2) (fun e m => .ob (hk _ _ m e).1 (hk _ _ m e).2) (fun e m r => .obs (hk _ _ m e).1 (hk _ _ m e).2 fun p hp => hk p.1 p.2 (r p hp).2 (r p hp).1) .nil (fun _ _ x r => .cons x r) r
theorem zH.to (hk : ∀ a o,¬ M a → h.get? a = some o → h'.get? a = some o ∧ ¬ M' a) {vs : List Value} {ds : List D} (r : zH prog w h M vs ds) : zH prog w h' M' vs ds:=by
 induction ds generalizing vs with
 | nil => cases r.inv; exact .nil
 | cons d ds ih => obtain ⟨u,us,rfl,x,q⟩:=r.inv; exact .cons (x.to hk) (ih q)
theorem zH.length {vs : List Value} {ds : List D} (r : zH prog w h M vs ds) : vs.length = ds.length:=by
 induction ds generalizing vs with
 | nil => rw [show vs = [] from r.inv]; rfl
 | cons d ds ih => obtain ⟨u,us,rfl,_,q⟩:=r.inv; exact congrArg (· + 1) (ih q)
theorem zH.append {vs ws : List Value} {ds es : List D} (r : zH prog w h M vs ds) (q : zH prog w h M ws es) : zH prog w h M (vs ++ ws) (ds ++ es):=by
 induction ds generalizing vs with
 | nil => rw [show vs = [] from r.inv]; exact q
 | cons d ds ih => obtain ⟨u,us,rfl,x,r⟩:=r.inv; exact .cons x (ih r)
theorem zH.get {vs : List Value} {ds : List D} (r : zH prog w h M vs ds) {i : Nat} {d : D} (e : ds[i]? = some d) : ∃ v,vs[i]? = some v ∧ Rp prog w h M v d:=by
 induction ds generalizing vs i with
 | nil => exact nomatch e
 | cons d' ds ih =>
  obtain ⟨u,us,rfl,x,r⟩:=r.inv
  cases i with
  | zero => exact ⟨u,rfl,Option.some.inj e ▸ x⟩
  | succ i => exact ih r e
theorem zH.take {vs : List Value} {ds : List D} (r : zH prog w h M vs ds) (n : Nat) : zH prog w h M (vs.take n) (ds.take n):=by
 induction ds generalizing vs n with
 | nil => rw [show vs = [] from r.inv,List.take_nil,List.take_nil]; exact .nil
 | cons d ds ih =>
  obtain ⟨u,us,rfl,x,r⟩:=r.inv
  cases n with
  | zero => exact .nil
  | succ n => exact .cons x (ih r n)
theorem zH.drop {vs : List Value} {ds : List D} (r : zH prog w h M vs ds) (n : Nat) : zH prog w h M (vs.drop n) (ds.drop n):=by
 induction ds generalizing vs n with
 | nil => rw [show vs = [] from r.inv,List.drop_nil,List.drop_nil]; exact .nil
 | cons d ds ih =>
  obtain ⟨u,us,rfl,x,r⟩:=r.inv
  cases n with
  | zero => exact .cons x r
  | succ n => exact ih r n
theorem zH.mem {vs : List Value} {ds : List D} (r : zH prog w h M vs ds) {v : Value} (hv : v ∈ vs) : ∃ d ∈ ds,Rp prog w h M v d:=by
 obtain ⟨i,e⟩:=List.getElem?_of_mem hv
 have hi:=r.length ▸ (List.getElem?_eq_some_iff.mp e).1
 obtain ⟨u,eu,x⟩:=r.get (getElem?_eq_getElem hi)
 rw [e] at eu
 exact ⟨_,getElem_mem hi,Option.some.inj eu ▸ x⟩
theorem Rp.int_inv {v : Value} {i : Int} (r : Rp prog w h M v (.int i)) : ∃ t,v = .int i t:=r.inv
theorem Rp.bool_inv {v : Value} {b : Bool} (r : Rp prog w h M v (.bool b)) : v = .bool b:=r.inv
theorem Rp.none_inv {v : Value} (r : Rp prog w h M v .none) : v = .none:=r.inv
theorem Rp.str_inv {v : Value} {x : Str} (r : Rp prog w h M v (.str x)) : ∃ t,v = .str x t:=r.inv
theorem Rp.bytes_inv {v : Value} {x : Array UInt8} (r : Rp prog w h M v (.bytes x)) : ∃ t,v = .bytes x t:=r.inv
theorem Rp.list_inv {v : Value} {ds : List D} (r : Rp prog w h M v (.list ds)) : ∃ a vs,v = .ref a ∧ h.PlainList a vs.toArray ∧ ¬ M a ∧ zH prog w h M vs ds:=r.inv
theorem Rp.tup_inv {v : Value} {ds : List D} (r : Rp prog w h M v (.tup ds)) : ∃ a vs,v = .ref a ∧ K9 h a vs ∧ ¬ M a ∧ zH prog w h M vs ds:=r.inv
theorem Rp.rng_inv {v : Value} {a b c : Int} (r : Rp prog w h M v (.rng a b c)) : ∃ r t u x,v = .ref r ∧ IsRange h r a b c t u x ∧ ¬ M r:=r.inv
theorem Rp.ob_inv {v : Value} {a : Addr} {o : Obj} (r : Rp prog w h M v (.ob a o)) : v = .ref a ∧ h.get? a = some o ∧ ¬ M a:=r.inv
theorem Rp.obs_inv {v : Value} {a : Addr} {o : Obj} {os : List (Addr × Obj)} (r : Rp prog w h M v (.obs a o os)) : v = .ref a ∧ h.get? a = some o ∧ ¬ M a ∧ ∀ p ∈ os,h.get? p.1 = some p.2 ∧ ¬ M p.1:=r.inv
end
theorem all_nil {α β : Type} {P : α → β → Prop} : ∀ x r,(x,r) ∈ ([] : List (α × β)) → P x r:=fun _ _ h => nomatch h
theorem all_cons {α β : Type} {P : α → β → Prop} {y : α} {q : β} {l : List (α × β)} (h : P y q) (t : ∀ x r,(x,r) ∈ l → P x r) : ∀ x r,(x,r) ∈ (y,q) :: l → P x r:=by
 intro x r m
 rcases mem_cons.mp m with e | m
 · cases e; exact h
 · exact t x r m
section
variable {α : Type} {a b c d e f g h i j k m n o : α} {l : List α}
theorem kR : a ∈ a :: l:=.head _
theorem yY : b ∈ a :: b :: l:=.tail _ (.head _)
theorem wM : c ∈ a :: b :: c :: l:=.tail _ yY
theorem qE : d ∈ a :: b :: c :: d :: l:=.tail _ wM
theorem WH : e ∈ a :: b :: c :: d :: e :: l:=.tail _ qE
theorem zA0 : f ∈ a :: b :: c :: d :: e :: f :: l:=.tail _ WH
theorem zBa : g ∈ a :: b :: c :: d :: e :: f :: g :: l:=.tail _ zA0
theorem zBU : h ∈ a :: b :: c :: d :: e :: f :: g :: h :: l:=.tail _ zBa
theorem zBJ : i ∈ a :: b :: c :: d :: e :: f :: g :: h :: i :: l:=.tail _ zBU
theorem zB5 : j ∈ a :: b :: c :: d :: e :: f :: g :: h :: i :: j :: l:=.tail _ zBJ
end
inductive RV where
 | dat (d : D)
 | adr (a : Addr)
 | val (v : Value)
noncomputable def yL (env : Env) (h : Heap) (x : Str) (v : Value) : Prop :=
 (env.kindOf x = some .local ∧ ∃ m,h.Ns env.locals m ∧ m x = some v) ∨
 ((env.kindOf x = some .cell ∨ (env.kindOf x = some .free ∧ (x == ("__classdict__" : Str)) = false)) ∧ ∃ c,env.cells.lookup x = some c ∧ h.IsCell c (some v))
theorem yL.ext {env : Env} {h h' : Heap} {x : Str} {v : Value} (k : zS h h') : yL env h x v → yL env h' x v:=by
 rintro (⟨a,m,n,e⟩ | ⟨a,c,e,q⟩)
 · exact .inl ⟨a,m,n.keeps k,e⟩
 · exact .inr ⟨a,c,e,q.keeps k⟩
section
variable (prog : Program) (w : World)
inductive zd (h : Heap) (M : Addr → Prop) (a : Addr) : D → Prop
 | list {vs : List Value} {ds : List D} : h.PlainList a vs.toArray → zH prog w h M vs ds → zd h M a (.list ds)
 | dct {ks : List Str} {vs : List Value} {ds : List D} : h.DictOf (strKind prog w) a (ks.zip vs) → ks.length = vs.length → (a == sysModules) = false → zH prog w h M vs ds → zd h M a (.dct ks ds)
 | tab {ps : Array Value} {os : List (Addr × Obj)} : h.get? a = some { cls:=.none,data:=.fields ps } → (∀ p ∈ os,h.get? p.1 = some p.2 ∧ ¬ M p.1) → zd h M a (.obs a { cls:=.none,data:=.fields ps } os)
 | itr {b : Array UInt8} {t : Tok} {i : Nat} : h.get? a = some (qV b t i) → zd h M a (.bit b i)
noncomputable def zt (h : Heap) (M : Addr → Prop) (v : Value) : RV → Prop
 | .dat d => Rp prog w h M v d
 | .adr a => v = .ref a
 | .val u => v = u
noncomputable def Rd (h : Heap) (M : Addr → Prop) (v : Value) (d : D) : Prop:=Rp prog w h M v d ∨ ∃ a,v = .ref a ∧ zd prog w h M a d
end
section
variable {prog : Program} {w : World} {h h' : Heap} {M M' : Addr → Prop}
theorem Rp.ext {v : Value} {d : D} (k : zS h h') (r : Rp prog w h M v d) : Rp prog w h' M v d:=Rp.to (fun a o m e => ⟨k a o e,m⟩) r
theorem zH.ext {v : List Value} {d : List D} (k : zS h h') (r : zH prog w h M v d) : zH prog w h' M v d:=zH.to (fun a o m e => ⟨k a o e,m⟩) r
theorem Rp.less {v : Value} {d : D} (k : ∀ a,M' a → M a) (r : Rp prog w h M v d) : Rp prog w h M' v d:=Rp.to (fun a o m e => ⟨e,fun x => m (k a x)⟩) r
theorem zH.less {v : List Value} {d : List D} (k : ∀ a,M' a → M a) (r : zH prog w h M v d) : zH prog w h M' v d:=zH.to (fun a o m e => ⟨e,fun x => m (k a x)⟩) r
theorem zd.to {a : Addr} {d : D} (ha : ∀ o,h.get? a = some o → h'.get? a = some o) (hk : ∀ a o,¬ M a → h.get? a = some o → h'.get? a = some o ∧ ¬ M' a) (c : zd prog w h M a d) : zd prog w h' M' a d:=by
 cases c with
 | list p r => exact .list (p.at ha) (zH.to hk r)
 | dct p l g r => exact .dct (jJ p ha) l g (zH.to hk r)
 | tab p r => exact .tab (ha _ p) fun q hq => hk q.1 q.2 (r q hq).2 (r q hq).1
 | itr p => exact .itr (ha _ p)
theorem zd.ext {a : Addr} {d : D} (k : zS h h') (c : zd prog w h M a d) : zd prog w h' M a d:=c.to (fun o e => k a o e) fun a o m e => ⟨k a o e,m⟩
theorem zt.to {v : Value} {r : RV} (hk : ∀ a o,¬ M a → h.get? a = some o → h'.get? a = some o ∧ ¬ M' a) (x : zt prog w h M v r) : zt prog w h' M' v r :=
 RV.casesOn (motive:=fun r => zt prog w h M v r → zt prog w h' M' v r) r (fun _ => Rp.to hk) (fun _ => id) (fun _ => id) x
theorem zt.ext {v : Value} {r : RV} (k : zS h h') (x : zt prog w h M v r) : zt prog w h' M v r:=x.to fun a o m e => ⟨k a o e,m⟩
theorem Rd.ext {v : Value} {d : D} (k : zS h h') (r : Rd prog w h M v d) : Rd prog w h' M v d:=by
 rcases r with r | ⟨a,e,c⟩
 · exact .inl (r.ext k)
 · exact .inr ⟨a,e,c.ext k⟩
theorem zd.list_inv {a : Addr} {ds : List D} (c : zd prog w h M a (.list ds)) : ∃ vs,h.PlainList a vs.toArray ∧ zH prog w h M vs ds:=by cases c with | list p r => exact ⟨_,p,r⟩
noncomputable def RdI (h : Heap) (All : List Value → List D → Prop) (Dct : Addr → List Str → List Value → Prop) (v : Value) : D → Prop
 | .none => v = .none
 | .bool b => v = .bool b
 | .int i => ∃ t,v = .int i t
 | .str x => ∃ t,v = .str x t
 | .bytes x => ∃ t,v = .bytes x t
 | .typ n => v = .type n
 | .list ds => ∃ a vs,v = .ref a ∧ h.PlainList a vs.toArray ∧ All vs ds
 | .tup ds => ∃ a vs,v = .ref a ∧ K9 h a vs ∧ All vs ds
 | .dct ks ds => ∃ a vs,v = .ref a ∧ Dct a ks vs ∧ ks.length = vs.length ∧ All vs ds ∧ (a == sysModules) = false
 | .rng a b c => ∃ r t u x,v = .ref r ∧ IsRange h r a b c t u x
 | .bit b i => ∃ a t,v = .ref a ∧ h.get? a = some (qV b t i)
 | .ob a o => v = .ref a ∧ h.get? a = some o
 | .obs a o _ => v = .ref a ∧ h.get? a = some o
theorem Rd.inv {v : Value} {d : D} (r : Rd prog w h M v d) : RdI h (zH prog w h M) (fun a ks vs => h.DictOf (strKind prog w) a (ks.zip vs)) v d :=
 Or.elim r (fun r => Rp.casesOn (motive_1:=fun v d _ => RdI h (zH prog w h M) (fun a ks vs => h.DictOf (strKind prog w) a (ks.zip vs)) v d) r rfl (fun _ => rfl) (fun _ t => ⟨t,rfl⟩) (fun _ t => ⟨t,rfl⟩) (fun _ t => ⟨t,rfl⟩) (fun _ => rfl) (fun e _ q => ⟨_,_,rfl,e,q⟩) (fun e _ q => ⟨_,_,rfl,e,q⟩) (fun e l g _ q => ⟨_,_,rfl,e,l,q,g⟩) (fun e _ => ⟨_,_,_,_,rfl,e⟩) (fun e _ => ⟨_,_,rfl,e⟩) (fun e _ => ⟨rfl,e⟩) (fun e _ _ => ⟨rfl,e⟩))
  fun r => Exists.elim r fun a r => r.1 ▸ zd.casesOn (motive:=fun d _ => RdI h (zH prog w h M) (fun a ks vs => h.DictOf (strKind prog w) a (ks.zip vs)) (.ref a) d) r.2 (fun p q => ⟨a,_,rfl,p,q⟩) (fun p l g q => ⟨a,_,rfl,p,l,q,g⟩) (fun p _ => ⟨rfl,p⟩) (fun p => ⟨a,_,rfl,p⟩)
theorem Rd.list_inv {v : Value} {ds : List D} (r : Rd prog w h M v (.list ds)) : ∃ a vs,v = .ref a ∧ h.PlainList a vs.toArray ∧ zH prog w h M vs ds:=r.inv
theorem Rd.int_inv {v : Value} {i : Int} (r : Rd prog w h M v (.int i)) : ∃ t,v = .int i t:=r.inv
theorem Rd.bool_inv {v : Value} {i : Bool} (r : Rd prog w h M v (.bool i)) : v = .bool i:=r.inv
theorem Rd.str_inv {v : Value} {i : Str} (r : Rd prog w h M v (.str i)) : ∃ t,v = .str i t:=r.inv
theorem Rd.none_inv {v : Value} (r : Rd prog w h M v .none) : v = .none:=r.inv
theorem Rd.typ_inv {v : Value} {n : String} (r : Rd prog w h M v (.typ n)) : v = .type n:=r.inv
theorem Rd.bytes_inv {v : Value} {i : Array UInt8} (r : Rd prog w h M v (.bytes i)) : ∃ t,v = .bytes i t:=r.inv
theorem Rd.tup_inv {v : Value} {ds : List D} (r : Rd prog w h M v (.tup ds)) : ∃ a vs,v = .ref a ∧ K9 h a vs ∧ zH prog w h M vs ds:=r.inv
theorem Rd.rng_inv {v : Value} {a b c : Int} (r : Rd prog w h M v (.rng a b c)) : ∃ r t u x,v = .ref r ∧ IsRange h r a b c t u x:=r.inv
theorem Rd.ob_inv {v : Value} {a : Addr} {o : Obj} (r : Rd prog w h M v (.ob a o)) : v = .ref a ∧ h.get? a = some o:=r.inv
theorem Rd.dct_inv {v : Value} {ks : List Str} {ds : List D} (r : Rd prog w h M v (.dct ks ds)) : ∃ a vs,v = .ref a ∧ h.DictOf (strKind prog w) a (ks.zip vs) ∧ ks.length = vs.length ∧ zH prog w h M vs ds ∧ (a == sysModules) = false:=r.inv
end
noncomputable abbrev zE:=List (Str × NameKind)
structure vq (names : zE) (env : Env) : Prop where
 fn : env.scope.kind = .function
 glob : env.globals = mainGlobals
 bl : env.builtins = builtinsNs
 gi : ∀ x,names.lookup x = some .globalImplicit → env.kindOf x = some .globalImplicit
 lo : ∀ x,names.lookup x = some .local → env.kindOf x = some .local
 ce : ∀ x,names.lookup x = some .cell → env.kindOf x = some .cell
 fr : ∀ x,names.lookup x = some .free → env.kindOf x = some .free ∨ env.kindOf x = some .cell
 cl : ∀ x,names.lookup x = some .cell ∨ names.lookup x = some .free → ∃ c,env.cells.lookup x = some c
 apart : ∀ x y c,env.cells.lookup x = some c → env.cells.lookup y = some c → x = y
structure yu (names : zE) (env : Env) (h : Heap) : Prop where
 ns : ∃ m,h.Ns env.locals m
 cell : ∀ x c,names.lookup x = some .cell → env.cells.lookup x = some c → ∃ v,h.IsCell c v
noncomputable def zO (names : zE) (env : Env) (a : Addr) : Prop:=a = env.locals ∨ ∃ x,names.lookup x = some .cell ∧ env.cells.lookup x = some a
theorem yi {h : Heap} {a : Addr} {m v} (n : h.Ns a m) (c : h.IsCell a v) : False:=by
 obtain ⟨o,_,_,e,d,_⟩:=n
 obtain ⟨o',e',d'⟩:=c
 rw [e] at e'; cases e'
 rw [d] at d'; cases d'
section
variable {M : Model} {A : Around} {E : Value → Shared → Prop} {s : Shared} {env : Env} {names : zE}
theorem yO {x : Str} {v : Value} {Q : Unit → Shared → Prop} (N : vq names env) (F : yu names env s.heap) (hx : names.lookup x = some .local ∨ names.lookup x = some .cell)
   (hQ : ∀ h' tk,yu names env h' → yL env h' x v → (∀ y u,y ≠ x → yL env s.heap y u → yL env h' y u) → (∀ a,¬ zO names env a → h'.get? a = s.heap.get? a) → Q () { s with heap:=h',toks:=tk }) :
   wpAny M A (storeName env x v) Q E s:=by
 obtain ⟨m,n⟩:=F.ns
 rcases hx with hx | hx
 · have hk:=N.lo x hx
   refine wpAny_storeName_local hk n (fun h' n' sb => ?_) (by rw [N.fn]; rfl)
   refine hQ h' _ ⟨⟨_,n'⟩,fun y c hy e => ?_⟩ (.inl ⟨hk,_,n',by simp⟩) (fun y u hne => ?_) (fun a ha => sb.2 a fun e => ha (.inl e))
   · obtain ⟨u,q⟩:=F.cell y c hy e
     exact ⟨u,q.sameBut sb fun e' => yi n (e' ▸ q)⟩
   · rintro (⟨a,m',n₂,e⟩ | ⟨a,c,e,q⟩)
     · refine .inl ⟨a,_,n', ?_⟩
       rw [if_neg hne]
       obtain ⟨o,es,ep,h1,h2,h3,h4⟩:=n
       obtain ⟨o',es',ep',g1,g2,g3,g4⟩:=n₂
       rw [h1] at g1; cases g1
       rw [h2] at g2; cases g2
       rw [← h4,g4]; exact e
     · exact .inr ⟨a,c,e,q.sameBut sb fun e' => yi n (e' ▸ q)⟩
 · have hk:=N.ce x hx
   obtain ⟨c,e⟩:=N.cl x (.inl hx)
   obtain ⟨u,q⟩:=F.cell x c hx e
   have hne : env.locals ≠ c:=fun e' => yi n (e' ▸ q)
   refine wpAny_storeName_cell N.fn hk e q fun h' q' sb => ?_
   refine hQ h' _ ⟨⟨_,n.sameBut sb hne⟩,fun y c' hy e' => ?_⟩ (.inr ⟨.inl hk,c,e,q'⟩) (fun y u hne' => ?_) (fun a ha => sb.2 a fun e' => ha (.inr ⟨x,hx,e' ▸ e⟩))
   · by_cases hc : c' = c
     · subst hc; exact ⟨_,q'⟩
     · obtain ⟨u',q2⟩:=F.cell y c' hy e'
       exact ⟨u',q2.sameBut sb hc⟩
   · rintro (⟨a,m',n₂,e₂⟩ | ⟨a,c',e',q2⟩)
     · exact .inl ⟨a,m',n₂.sameBut sb hne,e₂⟩
     · exact .inr ⟨a,c',e',q2.sameBut sb fun e2 => hne' (N.apart _ _ c (e2 ▸ e') e)⟩
theorem yu.to {h h' : Heap} (F : yu names env h) (hk : ∀ a o,zO names env a → h.get? a = some o → h'.get? a = some o) : yu names env h':=by
 refine ⟨?_,fun x c hx e => ?_⟩
 · obtain ⟨m,n⟩:=F.ns
   exact ⟨m,n.at' fun o e => hk _ o (.inl rfl) e⟩
 · obtain ⟨v,o,q,r⟩:=F.cell x c hx e
   exact ⟨v,o,hk _ _ (.inr ⟨x,hx,e⟩) q,r⟩
theorem yu.has {h : Heap} (F : yu names env h) {a : Addr} (x : zO names env a) : ∃ o,h.get? a = some o:=by
 rcases x with rfl | ⟨x,hx,e⟩
 · obtain ⟨m,o,_,_,e,_⟩:=F.ns; exact ⟨o,e⟩
 · obtain ⟨v,o,q,_⟩:=F.cell x a hx e; exact ⟨o,q⟩
end
structure En (prog : Program) (w : World) (B : Heap) (names : zE) (env : Env) (h : Heap) (M : Addr → Prop) (ρ : List (Str × RV)) (μ : List (Addr × D)) : Prop where
 base : zS B h
 n : vq names env
 old : ∀ a,M a → ∃ o,h.get? a = some o
 celled : ∀ x c,env.cells.lookup x = some c → ∃ v,h.IsCell c v
 vars : ∀ x r,(x,r) ∈ ρ → ∃ v,yL env h x v ∧ zt prog w h M v r
 mem : ∀ a d,(a,d) ∈ μ → zd prog w h M a d
theorem En.ext {prog : Program} {w : World} {B : Heap} {names : zE} {env : Env} {h h' : Heap} {M : Addr → Prop} {ρ : List (Str × RV)} {μ : List (Addr × D)} (S : En prog w B names env h M ρ μ) (k : zS h h') : En prog w B names env h' M ρ μ where
 base:=S.base.trans k
 n:=S.n
 old:=fun a m => let ⟨o,e⟩:=S.old a m; ⟨o,k a o e⟩
 celled:=fun x c e => let ⟨v,q⟩:=S.celled x c e; ⟨v,q.keeps k⟩
 vars:=fun x r m => let ⟨v,a,b⟩:=S.vars x r m; ⟨v,a.ext k,b.ext k⟩
 mem:=fun a d m => (S.mem a d m).ext k
noncomputable def Ev (prog : Program) (w : World) (A : Around) (h : Heap) (e : Expr) (env : Env) (R : Heap → Value → Prop) : Prop :=
 ∀ (s : Shared) (E : Value → Shared → Prop) (Q : Value → Shared → Prop),zS h s.heap → (∀ v s',Keeps s s' → R s'.heap v → Q v s') → wpAny (model prog w) A (eval e env) Q E s
noncomputable def Tv (prog : Program) (w : World) (A : Around) (h : Heap) (e : Expr) (env : Env) (b : Bool) : Prop :=
 ∀ (s : Shared) (E : Value → Shared → Prop) (Q : Bool → Shared → Prop),zS h s.heap → (∀ s',Keeps s s' → Q b s') → wpAny (model prog w) A (isTrue e env (eval e env)) Q E s
theorem zF (s : Shared) : Keeps s s:=⟨s.heap,s.toks,rfl,fun _ _ e => e⟩
theorem zL (s : Shared) (t : Nat) : Keeps s { s with toks:=t }:=⟨s.heap,t,rfl,fun _ _ e => e⟩
theorem zA {a b c : Shared} (x : Keeps a b) (y : Keeps b c) : Keeps a c:=by
 obtain ⟨h,t,rfl,k⟩:=x
 obtain ⟨h',t',rfl,k'⟩:=y
 exact ⟨h',t',rfl,fun b o e => k' b o (k b o e)⟩
theorem ke {a b : Shared} (x : Keeps a b) : zS a.heap b.heap:=by
 obtain ⟨h,t,rfl,k⟩:=x; exact k
noncomputable abbrev PS (prog : Program) (w : World) (M : Addr → Prop) (d : D) : Heap → Value → Prop:=fun h v => Rp prog w h M v d
noncomputable abbrev PR (prog : Program) (w : World) (M : Addr → Prop) (d : D) : Heap → Value → Prop:=fun h v => Rd prog w h M v d
theorem Ev.mono {prog : Program} {w : World} {A : Around} {h : Heap} {e : Expr} {env : Env} {R R' : Heap → Value → Prop} (x : Ev prog w A h e env R) (k : ∀ h v,R h v → R' h v) : Ev prog w A h e env R' :=
 fun s E Q hk hQ => x s E Q hk fun v s' ks r => hQ v s' ks (k _ _ r)
theorem Ev.ext {prog : Program} {w : World} {A : Around} {h h' : Heap} {e : Expr} {env : Env} {R : Heap → Value → Prop} (k : zS h h') (x : Ev prog w A h e env R) : Ev prog w A h' e env R :=
 fun s E Q hk hQ => x s E Q (k.trans hk) hQ
theorem Ev.rd {prog : Program} {w : World} {A : Around} {h : Heap} {e : Expr} {env : Env} {M} {d} (x : Ev prog w A h e env (PS prog w M d)) : Ev prog w A h e env (PR prog w M d) :=
 x.mono fun _ _ r => .inl r
section
variable {prog : Program} {w : World} {A : Around} {h : Heap} {env : Env} {M : Addr → Prop}
theorem zM (s : Shared) (o : Obj) (t : Nat) : Keeps s { s with heap:=s.heap.push o,toks:=t } :=
 ⟨_,t,rfl,fun _ _ e => get?_push_of_some _ e⟩
theorem Ev.const_int (i : Int) (k : Nat) (p : Pos) : Ev prog w A h (.Constant (.int i) k p) env (PS prog w M (.int i)) :=
 fun s E Q _ hQ => wpAny_Constant_int (hQ _ _ (zL s _) (.int i _))
theorem Ev.const_str (x : Str) (k : Nat) (p : Pos) : Ev prog w A h (.Constant (.str x) k p) env (PS prog w M (.str x)) :=
 fun s E Q _ hQ => wpAny_Constant_str (hQ _ _ (zL s _) (.str x _))
theorem Ev.const_bool (b : Bool) (k : Nat) (p : Pos) : Ev prog w A h (.Constant (.bool b) k p) env (PS prog w M (.bool b)) :=
 fun s E Q _ hQ => wpAny_Constant_bool (hQ _ _ (zF s) (.bool b))
theorem Ev.const_none (k : Nat) (p : Pos) : Ev prog w A h (.Constant .none k p) env (PS prog w M .none) :=
 fun s E Q _ hQ => wpAny_Constant_none (hQ _ _ (zF s) .none)
theorem Ev.var {B : Heap} {names : zE} {ρ : List (Str × RV)} {μ : List (Addr × D)} (S : En prog w B names env h M ρ μ) {x : Str} {r : RV} {p : Pos} (hm : (x,r) ∈ ρ) (hd : (x == ("__debug__" : Str)) = false) :
   Ev prog w A h (.Name x p) env (fun h' v => zt prog w h' M v r):=by
 intro s E Q k hQ
 obtain ⟨v,hv,hr⟩:=S.vars x r hm
 refine wpAny_Name ?_ hd
 have hq:=hQ v s (zF s) (hr.ext k)
 rcases hv with ⟨a,m,n,e⟩ | ⟨a | ⟨a,a2⟩,c,e,q⟩
 · exact wpAny_loadName_local S.n.fn a (n.keeps k) e hq
 · exact wpAny_loadName_cell S.n.fn a e (q.keeps k) hq
 · exact wpAny_loadName_free S.n.fn a e (q.keeps k) hq a2
theorem Ev.name {B : Heap} {names : zE} {ρ : List (Str × RV)} {μ : List (Addr × D)} (S : En prog w B names env h M ρ μ) {x : Str} {d : D} {p : Pos} (hm : (x,RV.dat d) ∈ ρ) (hd : (x == ("__debug__" : Str)) = false) :
 Ev prog w A h (.Name x p) env (PS prog w M d):=Ev.var S hm hd
theorem Ev.nameM {B : Heap} {names : zE} {ρ : List (Str × RV)} {μ : List (Addr × D)} (S : En prog w B names env h M ρ μ) {x : Str} {a : Addr} {d : D} {p : Pos} (hm : (x,RV.adr a) ∈ ρ) (hc : (a,d) ∈ μ) (hd : (x == ("__debug__" : Str)) = false) :
  Ev prog w A h (.Name x p) env (PR prog w M d):=by
 intro s E Q k hQ
 refine Ev.var S hm hd s E Q k fun v s' ks r => hQ v s' ks (.inr ⟨a,r,(S.mem a d hc).ext (k.trans (ke ks))⟩)
structure Gl (B : Heap) (mg mb : Str → Option Value) : Prop where
 g : B.Ns mainGlobals mg
 b : B.Ns builtinsNs mb
 lim : B.NoLimit
theorem Ev.glob {B : Heap} {names : zE} {ρ : List (Str × RV)} {μ : List (Addr × D)} {mg mb : Str → Option Value} (G : Gl B mg mb) (S : En prog w B names env h M ρ μ) {x : Str} {v : Value} {p : Pos}
   (hx : names.lookup x = some .globalImplicit) (hv : mg x = some v ∨ (mg x = none ∧ mb x = some v)) (hd : (x == ("__debug__" : Str)) = false) :
   Ev prog w A h (.Name x p) env (fun _ u => u = v):=by
 intro s E Q k hQ
 have kb:=S.base.trans k
 refine Name_function_global S.n.fn (S.n.gi x hx) ?_ hd
 have hq:=hQ v s (zF s) rfl
 rcases hv with e | ⟨e,e'⟩
 · exact loadGlobal_global (by rw [S.n.glob]; exact G.g.keeps kb) e hq
 · exact loadGlobal_builtin (by rw [S.n.glob]; exact G.g.keeps kb) e (by rw [S.n.bl]; exact G.b.keeps kb) e' hq
noncomputable def yC (prog : Program) (w : World) (op : Operator) (da db d : D) : Prop :=
 ∀ (A : Around) (M : Addr → Prop) (s : Shared) (E : Value → Shared → Prop) (Q : Value → Shared → Prop) (a b : Value),(∀ a,M a → ∃ o,s.heap.get? a = some o) → Rd prog w s.heap M a da → Rd prog w s.heap M b db →
  (∀ v s',Keeps s s' → Rp prog w s'.heap M v d → Q v s') → wpAny (model prog w) A (binaryOp op a b) Q E s
theorem Ev.bin {B : Heap} {names : zE} {ρ : List (Str × RV)} {μ : List (Addr × D)} (S : En prog w B names env h M ρ μ) {l r : Expr} {op : Operator} {p : Pos} {da db d : D} (hl : Ev prog w A h l env (PR prog w M da)) (hr : Ev prog w A h r env (PR prog w M db)) (ho : yC prog w op da db d) :
  Ev prog w A h (.BinOp l op r p) env (PS prog w M d):=by
 intro s E Q k hQ
 refine wpAny_BinOp (hl s E _ k fun a s₁ k₁ ra => ?_)
 refine hr s₁ E _ (k.trans (ke k₁)) fun b s₂ k₂ rb => ?_
 refine ho A M s₂ E Q a b (fun x m => ?_) (ra.ext (ke k₂)) rb fun v s' k₃ rv => hQ v s' (zA k₁ (zA k₂ k₃)) rv
 obtain ⟨o,e⟩:=S.old x m
 exact ⟨o,ke k₂ _ _ (ke k₁ _ _ (k _ _ e))⟩
theorem yC.add (a b : Int) : yC prog w .Add (.int a) (.int b) (.int (a + b)):=by
 intro A M s E Q x y _ rx ry hQ
 obtain ⟨t,rfl⟩:=rx.int_inv; obtain ⟨u,rfl⟩:=ry.int_inv
 exact add_int (hQ _ _ (zL s _) (.int _ _))
theorem yC.mod (a b : Int) (hb : b ≠ 0) (hp : Builtin.divisionGoesByPylong a b = false) : yC prog w .Mod (.int a) (.int b) (.int (a.fmod b)):=by
 intro A M s E Q x y _ rx ry hQ
 obtain ⟨t,rfl⟩:=rx.int_inv; obtain ⟨u,rfl⟩:=ry.int_inv
 exact mod_int hb (hQ _ _ (zL s _) (.int _ _))
theorem yC.and (a b : Int) : yC prog w .BitAnd (.int a) (.int b) (.int (Builtin.bitAnd a b)):=by
 intro A M s E Q x y _ rx ry hQ
 obtain ⟨t,rfl⟩:=rx.int_inv; obtain ⟨u,rfl⟩:=ry.int_inv
 exact and_int (hQ _ _ (zL s _) (.int _ _))
theorem yC.shl (a n : Int) (h0 : 0 ≤ n) (h1 : n ≤ 1000000) (h2 : a.natAbs < 2 ^ 64) : yC prog w .LShift (.int a) (.int n) (.int (a * 2 ^ n.toNat)):=by
 intro A M s E Q x y _ rx ry hQ
 obtain ⟨t,rfl⟩:=rx.int_inv; obtain ⟨u,rfl⟩:=ry.int_inv
 exact lshift_int_small h0 h1 h2 (hQ _ _ (zL s _) (.int _ _))
theorem yC.shr (a n : Int) (h0 : 0 ≤ n) : yC prog w .RShift (.int a) (.int n) (.int (a.fdiv (2 ^ n.toNat))):=by
 intro A M s E Q x y _ rx ry hQ
 obtain ⟨t,rfl⟩:=rx.int_inv; obtain ⟨u,rfl⟩:=ry.int_inv
 exact rshift_int h0 (hQ _ _ (zL s _) (.int _ _))
theorem yC.mul (a b : Int) (hm : IntMulOk a b) : yC prog w .Mult (.int a) (.int b) (.int (a * b)):=by
 intro A M s E Q x y _ rx ry hQ
 obtain ⟨t,rfl⟩:=rx.int_inv; obtain ⟨u,rfl⟩:=ry.int_inv
 exact mul_int (hQ _ _ (zL s _) (.int _ _)) hm
theorem yC.fdiv (a b : Int) (hb : b ≠ 0) (hp : Builtin.divisionGoesByPylong a b = false) : yC prog w .FloorDiv (.int a) (.int b) (.int (a.fdiv b)):=by
 intro A M s E Q x y _ rx ry hQ
 obtain ⟨t,rfl⟩:=rx.int_inv; obtain ⟨u,rfl⟩:=ry.int_inv
 exact floordiv_int hb (hQ _ _ (zL s _) (.int _ _)) (.inl hp)
theorem yC.addB (a b : Bool) : yC prog w .Add (.bool a) (.bool b) (.int (b2i a + b2i b)):=by
 intro A M s E Q x y _ rx ry hQ
 obtain rfl:=rx.bool_inv; obtain rfl:=ry.bool_inv
 exact add_bool (hQ _ _ (zL s _) (.int _ _))
theorem yC.addIB (a : Int) (b : Bool) : yC prog w .Add (.int a) (.bool b) (.int (a + if b = true then 1 else 0)):=by
 intro A M s E Q x y _ rx ry hQ
 obtain ⟨t,rfl⟩:=rx.int_inv; obtain rfl:=ry.bool_inv
 exact add_int_bool (hQ _ _ (zL s _) (.int _ _))
theorem yC.addS (x y : Str) (hs : x.length + y.length ≤ sizeLine) : yC prog w .Add (.str x) (.str y) (.str (x ++ y)):=by
 intro A M s E Q a b _ rx ry hQ
 obtain ⟨t,rfl⟩:=rx.str_inv; obtain ⟨u,rfl⟩:=ry.str_inv
 exact add_str (fun t' tk => hQ _ _ (zL s _) (.str _ _)) hs
theorem xY {s : Shared} (old : ∀ a,M a → ∃ o,s.heap.get? a = some o) : ¬ M s.heap.objs.size:=fun m => by
 obtain ⟨o,e⟩:=old _ m
 exact absurd (lt_size e) (lt_irrefl _)
theorem wA {h : Heap} {vs : List Value} {ds : List D} (r : zH prog w h M vs ds) (n : Nat) (hm : ¬ M h.objs.size) :
  Rp prog w (h.push { cls:=.type "list",data:=.seq vs.toArray n }) M (.ref h.objs.size) (.list ds) :=
 .list ⟨n,get?_push_size _ rfl⟩ hm (r.ext fun _ _ e => get?_push_of_some _ e)
theorem kU {h : Heap} {vs : List Value} {ds : List D} (r : zH prog w h M vs ds) (n : Nat) (hm : ¬ M h.objs.size) :
  Rp prog w (h.push { cls:=.type "tuple",data:=.seq vs.toArray n }) M (.ref h.objs.size) (.tup ds) :=
 .tup ⟨n,get?_push_size _ rfl⟩ hm (r.ext fun _ _ e => get?_push_of_some _ e)
theorem yC.addL (xs ys : List D) (hs : xs.length + ys.length ≤ sizeLine) : yC prog w .Add (.list xs) (.list ys) (.list (xs ++ ys)):=by
 intro A M s E Q x y old rx ry hQ
 obtain ⟨l,vs,rfl,⟨n,ho⟩,ra⟩:=rx.list_inv; obtain ⟨b,ws,rfl,⟨n2,ho2⟩,rb⟩:=ry.list_inv
 have e : vs.toArray ++ ws.toArray = (vs ++ ws).toArray:=by simp
 refine concat_meets ⟨_,ho,rfl⟩ ⟨_,ho2,rfl⟩ noFill_list_add seq_list_add PySem.F.slot_list_add PySem.F.entry_list_add (PySem.F.args_list_add_2 _ _) (list_addW l b vs.toArray ws.toArray n n2 none none #[] #[] (by simpa [ra.length,rb.length] using hs)) ⟨ho,ho2, ?_⟩
 rw [e]
 exact hQ _ _ (zM s _ s.toks) (wA (ra.append rb) _ (xY old))
end
open PySem PySem.Calls PyProof.Rows PySem.SeqAt
structure Rm (A : Around) (k : Nat) : Prop where
 hh : A.handled = none
 hd : A.depth + k < 990
 hu : A.units + 4 * k + 200 < 9900
theorem Rm.le {A : Around} {k j : Nat} (r : Rm A k) (h : j ≤ k) : Rm A j :=
 ⟨r.hh,lt_of_le_of_lt (Nat.add_le_add_left h _) r.hd,lt_of_le_of_lt (Nat.add_le_add_right (Nat.add_le_add_left (Nat.mul_le_mul_left 4 h) _) 200) r.hu⟩
theorem rmA (a b k : Nat) (h : a + 4 * (k + 1) + 200 < 9900) (e : b ≤ a + 4) : b + 4 * k + 200 < 9900:=by omega
theorem rmD (a k : Nat) (h : a + (k + 1) < 990) : a + 1 + k < 990:=by omega
theorem Rm.deeper {A : Around} {k : Nat} (r : Rm A (k + 1)) (env : Env) : Rm (A.deeper env) k:=⟨r.hh,rmD A.depth k r.hd,rmA A.units (A.units + 3) k r.hu (le_succ _)⟩
theorem Rm.in1 {A : Around} {k : Nat} (r : Rm A (k + 1)) : Rm A.in1 k:=⟨r.hh,Nat.lt_of_succ_lt r.hd,rmA A.units (A.units + 1) k r.hu (Nat.add_le_add_left (by decide) _)⟩
theorem Rm.lo {A : Around} {k : Nat} (r : Rm A k) : A.units + 200 < 9900:=lt_of_le_of_lt (Nat.add_le_add_right (le_add_right _ _) 200) r.hu
mutual
noncomputable def xR : D → PyData
 | .none => .none
 | .bool b => .bool b
 | .int i => .int i
 | .str x => .str x
 | .list xs => .list (wT xs)
 | .tup xs => .tuple (wT xs)
 | .bytes _ | .dct _ _ | .rng _ _ _ | .typ _ | .ob _ _ | .bit _ _ | .obs _ _ _ => .none
noncomputable def wT : List D → List PyData
 | [] => []
 | x :: xs => xR x :: wT xs
end
noncomputable def QP (b : Bool) (f : D → Bool) : D → Bool
 | .none | .bool _ | .int _ => true
 | .str x => PyData.strOk x
 | .list xs | .tup xs => b && xs.all f
 | .bytes _ | .dct _ _ | .rng _ _ _ | .typ _ | .ob _ _ | .bit _ _ | .obs _ _ _ => false
noncomputable def xz : Nat → D → Bool
 | 0 => QP false fun _ => false
 | n + 1 => QP true (xz n)
theorem xq {n : Nat} {xs : List D} : xz (n + 1) (.list xs) = xs.all (xz n):=rfl
section
variable {prog : Program} {w : World} {h : Heap} {M : Addr → Prop}
theorem jK {n : Nat} (ih : ∀ {v : Value} {d : D},Rp prog w h M v d → xz n d = true → ∃ as,Reads h v (xR d) as) {vs : List Value} {ds : List D} (r : zH prog w h M vs ds) (k : ds.all (xz n) = true) : ∃ as,ReadsAll h vs (wT ds) as:=by
 induction ds generalizing vs with
 | nil => rw [show vs = [] from r.inv]; exact ⟨_,.nil⟩
 | cons d ds hi =>
  obtain ⟨u,us,rfl,x,q⟩:=r.inv
  obtain ⟨k1,k2⟩:=and_eq_true_iff.mp k
  obtain ⟨as,p⟩:=ih x k1
  obtain ⟨bs,p'⟩:=hi q k2
  exact ⟨_,.cons p p'⟩
theorem Y2 (n : Nat) {v : Value} {d : D} (r : Rp prog w h M v d) (k : xz n d = true) : ∃ as,Reads h v (xR d) as:=by
 induction n generalizing v d with
 | zero =>
  revert k
  exact Rp.casesOn (motive_1:=fun v d _ => xz 0 d = true → ∃ as,Reads h v (xR d) as) r (fun _ => ⟨_,.none⟩) (fun b _ => ⟨_,.bool b⟩) (fun i t _ => ⟨_,.int i t⟩) (fun x t _ => ⟨_,.str x t⟩) (fun _ _ k => (Bool.false_ne_true k).elim) (fun _ k => (Bool.false_ne_true k).elim) (fun _ _ _ k => (Bool.false_ne_true k).elim) (fun _ _ _ k => (Bool.false_ne_true k).elim) (fun _ _ _ _ _ k => (Bool.false_ne_true k).elim) (fun _ _ k => (Bool.false_ne_true k).elim) (fun _ _ k => (Bool.false_ne_true k).elim) (fun _ _ k => (Bool.false_ne_true k).elim) (fun _ _ _ k => (Bool.false_ne_true k).elim)
 | succ n ih =>
  revert k
  exact Rp.casesOn (motive_1:=fun v d _ => xz (n + 1) d = true → ∃ as,Reads h v (xR d) as) r (fun _ => ⟨_,.none⟩) (fun b _ => ⟨_,.bool b⟩) (fun i t _ => ⟨_,.int i t⟩) (fun x t _ => ⟨_,.str x t⟩) (fun _ _ k => (Bool.false_ne_true k).elim) (fun _ k => (Bool.false_ne_true k).elim)
   (fun e _ r k => let ⟨_,q⟩:=jK ih r k; let ⟨_,e⟩:=e; ⟨_,.list e rfl rfl q⟩) (fun e _ r k => let ⟨_,q⟩:=jK ih r k; let ⟨_,e⟩:=e; ⟨_,.tuple e rfl rfl q⟩) (fun _ _ _ _ _ k => (Bool.false_ne_true k).elim) (fun _ _ k => (Bool.false_ne_true k).elim) (fun _ _ k => (Bool.false_ne_true k).elim) (fun _ _ k => (Bool.false_ne_true k).elim) (fun _ _ _ k => (Bool.false_ne_true k).elim)
theorem xL (n : Nat) {v : Value} {d : D} (r : Rd prog w h M v d) (k : xz n d = true) : ∃ as,Reads h v (xR d) as:=by
 rcases r with r | ⟨a,rfl,c⟩
 · exact Y2 n r k
 · revert k
   refine zd.casesOn (motive:=fun d _ => xz n d = true → ∃ as,Reads h (.ref a) (xR d) as) c (fun e r k => ?_) (fun _ _ _ _ k => ?_) (fun _ _ k => ?_) (fun _ k => ?_) <;> cases n <;> try exact (Bool.false_ne_true k).elim
   obtain ⟨_,q⟩:=jK (Y2 _) r k
   obtain ⟨_,e⟩:=e
   exact ⟨_,.list e rfl rfl q⟩
end
theorem ju {n : Nat} (ih : ∀ d,xz n d = true → (xR d).canLay0 = true ∧ (xR d).depth ≤ n) (ds : List D) (h : ds.all (xz n) = true) : PyData.canLayAll0 (wT ds) = true ∧ PyData.depthAll (wT ds) ≤ n:=by
 induction ds with
 | nil => exact ⟨rfl,zero_le _⟩
 | cons d ds hi =>
  obtain ⟨k1,k2⟩:=and_eq_true_iff.mp h
  exact ⟨and_eq_true_iff.mpr ⟨(ih d k1).1,(hi k2).1⟩,Nat.max_le.mpr ⟨(ih d k1).2,(hi k2).2⟩⟩
theorem jC (n : Nat) (d : D) (h : xz n d = true) : (xR d).canLay0 = true ∧ (xR d).depth ≤ n:=by
 induction n generalizing d with
 | zero => cases d <;> first | exact (Bool.false_ne_true h).elim | exact ⟨h,le_refl _⟩
 | succ n ih => cases d <;> first | exact (Bool.false_ne_true h).elim | exact ⟨h,zero_le _⟩ | exact ⟨(ju ih _ h).1,succ_le_succ (ju ih _ h).2⟩ | exact ⟨(ju ih _ h).1,(add_comm 1 _).symm ▸ succ_le_succ (ju ih _ h).2⟩
theorem wi {d : D} (h : xz 8 d = true) : shaped (xR d) = true:=by
 obtain ⟨a,b⟩:=jC 8 d h
 unfold shaped
 rw [a,Bool.true_and]
 exact decide_eq_true (le_trans b (by decide))
noncomputable def QK (a b : D) : Bool:=PyData.eqv (xR a) (xR b)
theorem XJ {n : Nat} (ih : ∀ d,xz n d = true → PyData.eqv (xR d) (xR d) = true) (ds : List D) (h : ds.all (xz n) = true) : PyData.eqvAll (wT ds) (wT ds) = true:=by
 induction ds with
 | nil => rfl
 | cons d ds hi =>
  obtain ⟨k1,k2⟩:=and_eq_true_iff.mp h
  exact and_eq_true_iff.mpr ⟨ih d k1,hi k2⟩
theorem JD (n : Nat) (d : D) (h : xz n d = true) : PyData.eqv (xR d) (xR d) = true:=by
 induction n generalizing d with
 | zero => cases d <;> first | exact (Bool.false_ne_true h).elim | exact beq_self_eq_true _ | rfl
 | succ n ih => cases d <;> first | exact (Bool.false_ne_true h).elim | exact beq_self_eq_true _ | exact XJ ih _ h | rfl
theorem YH (d : D) : ∀ ds : List D,((wT ds).any fun y => PyData.eqv y (xR d)) = ds.any fun y => QK y d
 | [] => rfl
 | y :: ds => by
  simp only [wT,List.any_cons]
  rw [YH d ds]
  rfl
theorem yc {d : D} (h : xz 8 d = true) : QK d d = true:=JD 8 d h
section
variable {prog : Program} {w : World} {A : Around} {h : Heap} {env : Env} {M : Addr → Prop}
noncomputable def zN (prog : Program) (w : World) (op : CmpOp) (da db : D) (b : Bool) : Prop :=
 ∀ (A : Around) (M : Addr → Prop) (s : Shared) (E : Value → Shared → Prop) (Q : Value → Shared → Prop) (x y : Value),A.units + 200 < 9900 → Rd prog w s.heap M x da → Rd prog w s.heap M y db →
  (∀ s',Keeps s s' → Q (.bool b) s') → wpAny (model prog w) A (compareOp op x y) Q E s
theorem Ev.cmp {l r : Expr} {op : CmpOp} {p : Pos} {da db : D} {b : Bool} (R : Rm A 0) (hl : Ev prog w A h l env (PR prog w M da)) (hr : Ev prog w A h r env (PR prog w M db)) (ho : zN prog w op da db b) (hm : behindInMarks op r = false) :
  Ev prog w A h (.Compare l [op] [r] p) env (PS prog w M (.bool b)):=by
 intro s E Q k hQ
 refine wpAny_Compare1 (hl s E _ k fun a s₁ k₁ ra => ?_) hm
 refine hr s₁ E _ (k.trans (ke k₁)) fun b s₂ k₂ rb => ?_
 exact ho A M s₂ E Q a b R.lo (ra.ext (ke k₂)) rb fun s' k₃ => hQ _ s' (zA k₁ (zA k₂ k₃)) (.bool _)
theorem Tv.cmp {l r : Expr} {op : CmpOp} {p : Pos} {da db : D} {b : Bool} (R : Rm A 0) (hl : Ev prog w A h l env (PR prog w M da)) (hr : Ev prog w A h r env (PR prog w M db)) (ho : zN prog w op da db b) (hm : behindInMarks op r = false) :
  Tv prog w A h (.Compare l [op] [r] p) env b:=by
 intro s E Q k hQ
 refine wpAny_isTrue_Compare1 (hl s E _ k fun a s₁ k₁ ra => ?_) hm
 refine hr s₁ E _ (k.trans (ke k₁)) fun b s₂ k₂ rb => ?_
 exact ho A M s₂ E _ a b R.lo (ra.ext (ke k₂)) rb fun s' k₃ => wpAny_truthy_bool (hQ s' (zA k₁ (zA k₂ k₃)))
theorem zN.lt (a b : Int) : zN prog w .Lt (.int a) (.int b) (decide (a < b)):=by
 intro A M s E Q x y _ rx ry hQ
 obtain ⟨t,rfl⟩:=rx.int_inv; obtain ⟨u,rfl⟩:=ry.int_inv
 exact lt_int (hQ _ (zF s))
theorem zN.gt (a b : Int) : zN prog w .Gt (.int a) (.int b) (decide (b < a)):=by
 intro A M s E Q x y _ rx ry hQ
 obtain ⟨t,rfl⟩:=rx.int_inv; obtain ⟨u,rfl⟩:=ry.int_inv
 exact gt_int (hQ _ (zF s))
theorem zN.eqI (a b : Int) : zN prog w .Eq (.int a) (.int b) (a == b):=by
 intro A M s E Q x y _ rx ry hQ
 obtain ⟨t,rfl⟩:=rx.int_inv; obtain ⟨u,rfl⟩:=ry.int_inv
 exact eq_int (hQ _ (zF s))
theorem zN.neI (a b : Int) : zN prog w .NotEq (.int a) (.int b) (a != b):=by
 intro A M s E Q x y _ rx ry hQ
 obtain ⟨t,rfl⟩:=rx.int_inv; obtain ⟨u,rfl⟩:=ry.int_inv
 exact ne_int (hQ _ (zF s))
theorem zN.eq {da db : D} (ha : xz 8 da = true) (hb : xz 8 db = true) : zN prog w .Eq da db (QK da db):=by
 intro A M s E Q x y hu rx ry hQ
 obtain ⟨as,ra⟩:=xL 8 rx ha
 obtain ⟨bs,rb⟩:=xL 8 ry hb
 exact eq_dataH ra rb (wi ha) (wi hb) (by rw [cLine_is]; omega) (hQ _ (zF s))
theorem zN.ne {da db : D} (ha : xz 8 da = true) (hb : xz 8 db = true) : zN prog w .NotEq da db (!QK da db):=by
 intro A M s E Q x y hu rx ry hQ
 obtain ⟨as,ra⟩:=xL 8 rx ha
 obtain ⟨bs,rb⟩:=xL 8 ry hb
 exact ne_dataH ra rb (wi ha) (wi hb) (by rw [cLine_is]; omega) (hQ _ (zF s))
theorem zN.inL {d : D} {ds : List D} (ha : xz 8 (.list ds) = true) (hb : xz 8 d = true) : zN prog w .In d (.list ds) (ds.any fun y => QK y d):=by
 intro A M s E Q x y hu rx ry hQ
 obtain ⟨as,ra⟩:=xL 8 ry ha
 obtain ⟨bs,rb⟩:=xL 8 rx hb
 have l1:=jC 8 _ ha
 have l2:=jC 8 _ hb
 rw [xR] at ra l1
 simp only [PyData.canLay0] at l1
 have e:=YH d ds
 refine SeqAt.in_list_reads ra rb l1.1 l2.1 ?_ (by rw [e]; exact hQ _ (zF s))
 have:=Nat.min_le_right (PyData.depthAll (wT ds)) (xR d).depth
 rw [cLine_is]; omega
theorem zN.notInL {d : D} {ds : List D} (ha : xz 8 (.list ds) = true) (hb : xz 8 d = true) : zN prog w .NotIn d (.list ds) (!ds.any fun y => QK y d):=by
 intro A M s E Q x y hu rx ry hQ
 obtain ⟨as,ra⟩:=xL 8 ry ha
 obtain ⟨bs,rb⟩:=xL 8 rx hb
 have l1:=jC 8 _ ha
 have l2:=jC 8 _ hb
 rw [xR] at ra l1
 simp only [PyData.canLay0] at l1
 have e:=YH d ds
 refine SeqAt.notIn_list_reads ra rb l1.1 l2.1 ?_ (by rw [e]; exact hQ _ (zF s))
 have:=Nat.min_le_right (PyData.depthAll (wT ds)) (xR d).depth
 rw [cLine_is]; omega
noncomputable def isNone : D → Option Bool
 | .none => some true
 | .bool _ | .str _ | .int _ | .list _ | .tup _ | .ob _ _ => some false
 | .bytes _ | .dct _ _ | .rng _ _ _ | .typ _ | .bit _ _ | .obs _ _ _ => none
noncomputable def zAu (c : Bool) : D → Option Bool
 | .bool b => some (b == c)
 | .none => some false
 | .str _ | .int _ | .list _ | .tup _ | .ob _ _ | .bytes _ | .dct _ _ | .rng _ _ _ | .typ _ | .bit _ _ | .obs _ _ _ => none
noncomputable def zBh (c : String) : D → Option Bool
 | .typ b => some (b == c)
 | .none | .bool _ | .str _ | .int _ | .list _ | .tup _ | .ob _ _ | .bytes _ | .dct _ _ | .rng _ _ _ | .bit _ _ | .obs _ _ _ => none
noncomputable def isD (a : D) : D → Option Bool
 | .none => isNone a
 | .bool c => zAu c a
 | .typ c => zBh c a
 | .str _ | .int _ | .list _ | .tup _ | .ob _ _ | .bytes _ | .dct _ _ | .rng _ _ _ | .bit _ _ | .obs _ _ _ => none
theorem vj {α : Type} {b : α} (e : none = some b) : False:=nomatch e
theorem Zk {h : Heap} {da db : D} {b : Bool} {x y : Value} (e : isD da db = some b) (rx : Rd prog w h M x da) (ry : Rd prog w h M y db) : plainIs x y = true ∧ (x == y) = b:=by
 cases db <;> try exact (vj e).elim
 · rw [ry.none_inv]
   cases da <;> (try exact (vj e).elim) <;> cases Option.some.inj e
   · rw [rx.none_inv]; exact ⟨rfl,rfl⟩
   · rw [rx.bool_inv]; exact ⟨rfl,rfl⟩
   · obtain ⟨_,q⟩:=rx.int_inv; rw [q]; exact ⟨rfl,rfl⟩
   · obtain ⟨_,q⟩:=rx.str_inv; rw [q]; exact ⟨rfl,rfl⟩
   · obtain ⟨_,_,q,_⟩:=rx.list_inv; rw [q]; exact ⟨rfl,rfl⟩
   · obtain ⟨_,_,q,_⟩:=rx.tup_inv; rw [q]; exact ⟨rfl,rfl⟩
   · rw [rx.ob_inv.1]; exact ⟨rfl,rfl⟩
 · rename_i c
   rw [ry.bool_inv]
   cases da <;> (try exact (vj e).elim) <;> cases Option.some.inj e
   · rw [rx.none_inv]; exact ⟨rfl,rfl⟩
   · rename_i a; rw [rx.bool_inv]; exact ⟨rfl,by cases a <;> cases c <;> rfl⟩
 · rename_i c
   rw [ry.typ_inv]
   cases da <;> (try exact (vj e).elim) <;> cases Option.some.inj e
   rename_i a
   rw [rx.typ_inv]
   refine ⟨rfl, ?_⟩
   rw [Bool.eq_iff_iff,beq_iff_eq,beq_iff_eq]
   exact ⟨fun e => by injection e,fun e => e ▸ rfl⟩
theorem zN.is {da db : D} {b : Bool} (e : isD da db = some b) : zN prog w .Is da db b:=by
 intro A M s E Q x y hu rx ry hQ
 obtain ⟨p,q⟩:=Zk e rx ry
 exact wpAny_is_plain p (by rw [q]; exact hQ _ (zF s))
theorem zN.isNot {da db : D} {b : Bool} (e : isD da db = some b) : zN prog w .IsNot da db (!b):=by
 intro A M s E Q x y hu rx ry hQ
 obtain ⟨p,q⟩:=Zk e rx ry
 exact wpAny_isNot_plain p (by rw [q]; exact hQ _ (zF s))
noncomputable def ym (prog : Program) (w : World) (d : D) (b : Bool) : Prop :=
 ∀ (A : Around) (M : Addr → Prop) (s : Shared) (E : Value → Shared → Prop) (Q : Bool → Shared → Prop) (v : Value),Rd prog w s.heap M v d → (∀ s',Keeps s s' → Q b s') → wpAny (model prog w) A (truthy v) Q E s
theorem ym.bool (b : Bool) : ym prog w (.bool b) b:=by
 intro A M s E Q v r hQ
 obtain rfl:=r.bool_inv
 exact wpAny_truthy_bool (hQ _ (zF s))
theorem ym.none : ym prog w .none false:=by
 intro A M s E Q v r hQ
 obtain rfl:=r.none_inv
 exact truthy_none (hQ _ (zF s))
theorem ym.int (i : Int) : ym prog w (.int i) (i != 0):=by
 intro A M s E Q v r hQ
 obtain ⟨t,rfl⟩:=r.int_inv
 exact truthy_int (hQ _ (zF s))
theorem ym.str (x : Str) (hx : x.length ≤ sizeLine) : ym prog w (.str x) ((x.length : Int) != 0):=by
 intro A M s E Q v r hQ
 obtain ⟨t,rfl⟩:=r.str_inv
 exact P.truthy_str (by rw [sizeLine_eq] at hx; omega) (hQ _ (zL s _))
theorem ym.list (xs : List D) (hx : xs.length ≤ sizeLine) : ym prog w (.list xs) (!xs.isEmpty):=by
 intro A M s E Q v r hQ
 obtain ⟨a,vs,rfl,p,q⟩:=r.list_inv
 have e:=q.length
 refine wpAny_truthy_list p.isList (by rw [sizeLine_eq] at hx; simp; omega) ?_
 have e2 : vs.toArray.isEmpty = xs.isEmpty:=by cases vs <;> cases xs <;> first | rfl | cases e
 rw [e2]
 exact hQ _ (zL s _)
theorem Tv.plain {e : Expr} {d : D} {b : Bool} (hv : Ev prog w A h e env (PR prog w M d)) (ht : ym prog w d b) (he : isTrue e env (eval e env) = (do let v ← eval e env; standAt e.pos; holding [v] (truthy v))) : Tv prog w A h e env b:=by
 intro s E Q k hQ
 refine isTrue_plain (hv s E _ k fun v s₁ k₁ r => ?_) he
 exact ht A M s₁ E Q v r fun s' k₂ => hQ s' (zA k₁ k₂)
theorem Tv.not {x : Expr} {p : Pos} {b : Bool} (hx : Tv prog w A h x env b) : Tv prog w A h (.UnaryOp .Not x p) env (!b):=by
 intro s E Q k hQ
 exact isTrue_not (hx s E _ k fun s₁ k₁ => hQ s₁ k₁)
theorem Tv.or_nil {p : Pos} : Tv prog w A h (.BoolOp .Or [] p) env false:=fun s E Q k hQ => isTrue_or_nil (hQ s (zF s))
theorem Tv.or_cons {x : Expr} {xs : List Expr} {p : Pos} {a b : Bool} (hx : Tv prog w A h x env a) (hy : a = false → Tv prog w A h (.BoolOp .Or xs p) env b) : Tv prog w A h (.BoolOp .Or (x :: xs) p) env (a || b):=by
 intro s E Q k hQ
 refine isTrue_or (hx s E _ k fun s₁ k₁ => ?_)
 cases a with
 | true => exact hQ s₁ k₁
 | false => exact hy rfl s₁ E Q (k.trans (ke k₁)) fun s₂ k₂ => hQ s₂ (zA k₁ k₂)
theorem Tv.and_nil {p : Pos} : Tv prog w A h (.BoolOp .And [] p) env true:=fun s E Q k hQ => isTrue_and_nil (hQ s (zF s))
theorem Tv.and_cons {x : Expr} {xs : List Expr} {p : Pos} {a b : Bool} (hx : Tv prog w A h x env a) (hy : a = true → Tv prog w A h (.BoolOp .And xs p) env b) : Tv prog w A h (.BoolOp .And (x :: xs) p) env (a && b):=by
 intro s E Q k hQ
 refine isTrue_and (hx s E _ k fun s₁ k₁ => ?_)
 cases a with
 | false => exact hQ s₁ k₁
 | true => exact hy rfl s₁ E Q (k.trans (ke k₁)) fun s₂ k₂ => hQ s₂ (zA k₁ k₂)
theorem Ev.not {x : Expr} {p : Pos} {d : D} {b : Bool} (hx : Ev prog w A h x env (PR prog w M d)) (ht : ym prog w d b) : Ev prog w A h (.UnaryOp .Not x p) env (PS prog w M (.bool !b)):=by
 intro s E Q k hQ
 refine UnaryOp_ (hx s E _ k fun v s₁ k₁ r => ?_)
 exact not_of (ht A M s₁ E _ v r fun s₂ k₂ => hQ _ s₂ (zA k₁ k₂) (.bool _))
theorem Ev.neg {x : Expr} {p : Pos} {i : Int} (hx : Ev prog w A h x env (PR prog w M (.int i))) : Ev prog w A h (.UnaryOp .USub x p) env (PS prog w M (.int (-i))):=by
 intro s E Q k hQ
 refine UnaryOp_ (hx s E _ k fun v s₁ k₁ r => ?_)
 obtain ⟨t,rfl⟩:=r.int_inv
 exact neg_int (hQ _ _ (zA k₁ (zL s₁ _)) (.int _ _))
theorem Ev.or2 {x y : Expr} {p : Pos} {d e : D} {b : Bool} (hx : Ev prog w A h x env (PS prog w M d)) (ht : ym prog w d b) (hy : b = false → Ev prog w A h y env (PS prog w M e)) :
  Ev prog w A h (.BoolOp .Or [x,y] p) env (PS prog w M (if b then d else e)):=by
 intro s E Q k hQ
 refine wpAny_Or2 (hx s E _ k fun v s₁ k₁ r => ?_)
 refine ht A M s₁ E _ v (.inl r) fun s₂ k₂ => ?_
 cases b with
 | true => exact hQ v s₂ (zA k₁ k₂) (r.ext (ke k₂))
 | false => exact hy rfl s₂ E Q (k.trans ((ke k₁).trans (ke k₂))) fun u s₃ k₃ q => hQ u s₃ (zA k₁ (zA k₂ k₃)) q
theorem Ev.and2 {x y : Expr} {p : Pos} {d e : D} {b : Bool} (hx : Ev prog w A h x env (PS prog w M d)) (ht : ym prog w d b) (hy : b = true → Ev prog w A h y env (PS prog w M e)) :
  Ev prog w A h (.BoolOp .And [x,y] p) env (PS prog w M (if b then e else d)):=by
 intro s E Q k hQ
 refine wpAny_And2 (hx s E _ k fun v s₁ k₁ r => ?_)
 refine ht A M s₁ E _ v (.inl r) fun s₂ k₂ => ?_
 cases b with
 | false => exact hQ v s₂ (zA k₁ k₂) (r.ext (ke k₂))
 | true => exact hy rfl s₂ E Q (k.trans ((ke k₁).trans (ke k₂))) fun u s₃ k₃ q => hQ u s₃ (zA k₁ (zA k₂ k₃)) q
theorem Ev.ifExp {t x y : Expr} {p : Pos} {d e : D} {b : Bool} (ht : Tv prog w A h t env b) (hx : b = true → Ev prog w A h x env (PS prog w M d)) (hy : b = false → Ev prog w A h y env (PS prog w M e)) :
  Ev prog w A h (.IfExp t x y p) env (PS prog w M (if b then d else e)):=by
 intro s E Q k hQ
 refine wpAny_IfExp (ht s E _ k fun s₁ k₁ => ?_)
 cases b with
 | true => exact hx rfl s₁ E Q (k.trans (ke k₁)) fun u s₃ k₃ q => hQ u s₃ (zA k₁ k₃) q
 | false => exact hy rfl s₁ E Q (k.trans (ke k₁)) fun u s₃ k₃ q => hQ u s₃ (zA k₁ k₃) q
theorem Ev.cast {e : Expr} {d d' : D} (x : Ev prog w A h e env (PS prog w M d)) (q : d = d') : Ev prog w A h e env (PS prog w M d'):=q ▸ x
theorem Tv.cast {e : Expr} {d d' : Bool} (x : Tv prog w A h e env d) (q : d = d') : Tv prog w A h e env d':=q ▸ x
inductive Zr (prog : Program) (w : World) (A : Around) (h : Heap) (env : Env) (M : Addr → Prop) : List Expr → List D → Prop
 | nil : Zr prog w A h env M [] []
 | cons {e : Expr} {es : List Expr} {d : D} {ds : List D} : Ev prog w A h e env (PS prog w M d) → Zr prog w A h env M es ds → (∀ rest,starEach (e :: rest) env = (false,eval e env) :: starEach rest env) → Zr prog w A h env M (e :: es) (d :: ds)
theorem x9 {es : List Expr} {ds : List D} {pos : Pos} (x : Zr prog w A h env M es ds) : ∀ (s : Shared) (E : Value → Shared → Prop) (Q : List Value → Shared → Prop),zS h s.heap →
  (∀ vs s',Keeps s s' → zH prog w s'.heap M vs ds → Q vs s') → wpAny (model prog w) A (spliced (backTo pos (starEach es env))) Q E s:=by
 induction x with
 | nil => intro s E Q k hQ; exact spliced_nil (hQ [] s (zF s) .nil)
 | @cons e es d ds hv _ hs ih =>
  intro s E Q k hQ
  rw [hs]
  show wpAny _ _ (spliced ((false,eval e env) :: backTo pos (starEach es env))) Q E s
  refine spliced_cons (hv s E _ k fun v s₁ k₁ r => ?_)
  exact ih s₁ E _ (k.trans (ke k₁)) fun vs s₂ k₂ rs => hQ _ s₂ (zA k₁ k₂) (.cons (r.ext (ke k₂)) rs)
theorem Ev.tuple {B : Heap} {names : zE} {ρ : List (Str × RV)} {μ : List (Addr × D)} (S : En prog w B names env h M ρ μ) {es : List Expr} {ds : List D} {k : Nat} {p : Pos} (x : Zr prog w A h env M es ds) (hl : ds.length ≤ sizeLine) : Ev prog w A h (.Tuple es k p) env (PS prog w M (.tup ds)):=by
 intro s E Q k hQ
 refine Tuple_ (x9 x s E _ k fun vs s₁ k₁ rs => ?_)
 refine wpAny_newObj_type (hQ _ _ (zA k₁ (zM s₁ _ _)) (kU rs 0 (xY fun a m => ?_))) (by show vs.toArray.size ≤ sizeLine; rw [size_toArray,rs.length]; exact hl)
 obtain ⟨o,e⟩:=S.old a m
 exact ⟨o,ke k₁ _ _ (k _ _ e)⟩
theorem Ev.list {B : Heap} {names : zE} {ρ : List (Str × RV)} {μ : List (Addr × D)} (S : En prog w B names env h M ρ μ) {es : List Expr} {ds : List D} {p : Pos} (x : Zr prog w A h env M es ds) (hl : ds.length ≤ sizeLine) : Ev prog w A h (.List es p) env (PS prog w M (.list ds)):=by
 intro s E Q k hQ
 refine List_ (x9 x s E _ k fun vs s₁ k₁ rs => ?_)
 refine wpAny_newObj_type (hQ _ _ (zA k₁ (zM s₁ _ _)) (wA rs 0 (xY fun a m => ?_))) (by show vs.toArray.size ≤ sizeLine; rw [size_toArray,rs.length]; exact hl)
 obtain ⟨o,e⟩:=S.old a m
 exact ⟨o,ke k₁ _ _ (k _ _ e)⟩
end
noncomputable def vJ (a b c : Int) : List Int:=(List.range (Builtin.Range.rangeSize a b c).toNat).map fun (i : Nat) => a + i * c
inductive zj : D → List D → Prop
 | list (xs : List D) : zj (.list xs) xs
 | tup (xs : List D) : zj (.tup xs) xs
 | rng {a b c : Int} : Builtin.Range.small a b c = true → zj (.rng a b c) ((vJ a b c).map .int)
noncomputable def x8 (o : Obj) : Prop:=(∃ vs,o.data = .fields vs) ∧ ∃ n,o.cls = .type n ∧ ["enumerate","zip","dict_itemiterator","dict_reverseitemiterator","odict_iterator","itertools.zip_longest","itertools.pairwise"].contains n = false ∧ n ≠ "bytes_iterator"
structure Src (prog : Program) (w : World) (A : Around) (h : Heap) (M : Addr → Prop) (xs : List D) (I : Addr) (fp wr : List Addr) (P : Nat → Value → Prop) (St : Nat → Heap → Prop) (s₂ : Shared) : Prop where
 W : Walks prog w A I fp wr xs.length P St
 st : St 0 s₂.heap
 lo : ∀ b ∈ fp,b < s₂.heap.objs.size
 fresh : ∀ b ∈ wr,h.get? b = none
 one : ∀ b ∈ wr,b = I
 live : ∀ i h,St i h → ∀ b ∈ wr,∃ o,h.get? b = some o
 own : ∀ i h,St i h → ∃ o,h.get? I = some o ∧ x8 o
 item : ∀ i x,P i x → ∃ d,xs[i]? = some d ∧ Rp prog w h M x d
theorem yM (a b c : Int) : (vJ a b c).length = (Builtin.Range.rangeSize a b c).toNat:=by simp [vJ]
section
variable {prog : Program} {w : World} {A : Around} {h : Heap} {env : Env} {M : Addr → Prop}
theorem zc (h : Heap) : h.get? h.objs.size = none:=get?_none_of_le (le_refl _)
theorem zH.back {vs : List Value} {ds : List D} (r : zH prog w h M vs ds) {i : Nat} {v : Value} (e : vs[i]? = some v) : ∃ d,ds[i]? = some d ∧ Rp prog w h M v d:=by
 induction vs generalizing ds i with
 | nil => simp at e
 | cons u vs ih =>
  cases r with
  | cons x r =>
   cases i with
   | zero => simp at e; subst e; exact ⟨_,rfl,x⟩
   | succ i => simp at e; simpa using ih r e
theorem qS (hh : A.handled = none) {d : D} {xs : List D} (hs : zj d xs) {s : Shared} {E : Value → Shared → Prop} {Q : Value → Shared → Prop} {v : Value} (r : Rd prog w s.heap M v d)
  (hQ : ∀ I fp wr P St s₂,Src prog w A s.heap M xs I fp wr P St s₂ → (∀ b ∈ fp,b ∈ wr ∨ v = .ref b) → Keeps s s₂ → Q (.ref I) s₂) : wpAny (model prog w) A (pyIter v) Q E s:=by
 cases hs with
 | list =>
  obtain ⟨a,vs,rfl,p,q⟩:=r.list_inv
  have hne : a ≠ s.heap.objs.size:=by obtain ⟨n,e⟩:=p; exact ne_of_lt (lt_size e)
  refine wpAny_pyIter_list p.isList (hQ _ [s.heap.objs.size,a] [s.heap.objs.size] (fun i v => vs.toArray[i]? = some v) (fun i h => h.IsListIter s.heap.objs.size a i ∧ h.IsList a vs.toArray) _ ⟨?_,⟨⟨_,get?_push_size _ rfl,rfl,rfl⟩,p.isList.push _⟩, ?_, ?_,fun b hb => by simpa using hb, ?_, ?_, ?_⟩ (fun b hb => by simp at hb; rcases hb with rfl | rfl; exact .inl (by simp); exact .inr rfl) (zM s _ s.toks))
  · have W:=Walks.list (prog:=prog) (w:=w) hh s.heap.objs.size a hne vs.toArray
    have e : vs.toArray.size = xs.length:=by rw [size_toArray,q.length]
    rw [e] at W; exact W
  · intro b hb
    simp at hb
    rw [Heap.size_push]
    rcases hb with rfl | rfl
    · exact lt_succ_self _
    · obtain ⟨n,e⟩:=p; exact lt_succ_of_lt (lt_size e)
  · intro b hb; simp at hb; subst hb; exact zc _
  · intro i h st b hb; simp at hb; subst hb; obtain ⟨⟨o,e,_⟩,_⟩:=st; exact ⟨o,e⟩
  · intro i h st; obtain ⟨⟨o,e,c,f⟩,_⟩:=st; exact ⟨o,e,⟨_,f⟩,_,c,by decide,by decide⟩
  · intro i x hx
    exact q.back (by simpa using hx)
 | tup =>
  obtain ⟨a,vs,rfl,⟨n,p⟩,q⟩:=r.tup_inv
  have ht : s.heap.IsTuple a vs.toArray:=⟨_,p,rfl,n,rfl⟩
  have hne : a ≠ s.heap.objs.size:=ne_of_lt (lt_size p)
  refine wpAny_pyIter_tuple ht (hQ _ [s.heap.objs.size,a] [s.heap.objs.size] (fun i v => vs.toArray[i]? = some v) (fun i h => h.IsTupleIter s.heap.objs.size a i ∧ h.IsTuple a vs.toArray) _ ⟨?_,⟨⟨_,get?_push_size _ rfl,rfl,rfl⟩,ht.push _⟩, ?_, ?_,fun b hb => by simpa using hb, ?_, ?_, ?_⟩ (fun b hb => by simp at hb; rcases hb with rfl | rfl; exact .inl (by simp); exact .inr rfl) (zM s _ s.toks))
  · have W:=Walks.tuple (prog:=prog) (w:=w) hh s.heap.objs.size a hne vs.toArray
    have e : vs.toArray.size = xs.length:=by rw [size_toArray,q.length]
    rw [e] at W; exact W
  · intro b hb
    simp at hb
    rw [Heap.size_push]
    rcases hb with rfl | rfl
    · exact lt_succ_self _
    · exact lt_succ_of_lt (lt_size p)
  · intro b hb; simp at hb; subst hb; exact zc _
  · intro i h st b hb; simp at hb; subst hb; obtain ⟨⟨o,e,_⟩,_⟩:=st; exact ⟨o,e⟩
  · intro i h st; obtain ⟨⟨o,e,c,f⟩,_⟩:=st; exact ⟨o,e,⟨_,f⟩,_,c,by decide,by decide⟩
  · intro i x hx
    exact q.back (by simpa using hx)
 | @rng a b c hsm =>
  obtain ⟨r,t,u,x,rfl,p⟩:=r.rng_inv
  refine wpAny_pyIter_range p hsm (hQ _ [s.heap.objs.size] [s.heap.objs.size] (fun i v => i < ((vJ a b c).map D.int).length ∧ ∃ t,v = .int (a + i * c) t)
    (fun i h => IsRangeIter h s.heap.objs.size (a + (i : Nat) * c) (((Builtin.Range.rangeSize a b c).toNat : Int) - (i : Nat)) c) _ ⟨?_, ?_, ?_, ?_,fun b hb => by simpa using hb, ?_, ?_, ?_⟩ (fun b hb => .inl hb) (zM s _ s.toks))
  · have W:=(Walks.range (prog:=prog) (w:=w) hh s.heap.objs.size a c (Builtin.Range.rangeSize a b c).toNat).bound
    rw [length_map,yM]; exact W
  · have e : (((Builtin.Range.rangeSize a b c).toNat : Nat) : Int) = Builtin.Range.rangeSize a b c:=by
      have : 0 ≤ Builtin.Range.rangeSize a b c:=by
       unfold Builtin.Range.rangeSize
       split
       · split
         · have : 0 ≤ (b - a - 1) / c:=Int.ediv_nonneg (by omega) (by omega)
           omega
         · omega
       · split
         · have : 0 ≤ (a - b - 1) / (-c):=Int.ediv_nonneg (by omega) (by omega)
           omega
         · omega
      omega
    show IsRangeIter _ _ _ _ _
    rw [e]
    simpa using get?_push_size _ rfl
  · intro b hb; simp at hb; subst hb; rw [Heap.size_push]; exact lt_succ_self _
  · intro b hb; simp at hb; subst hb; exact zc _
  · intro i h st b hb; simp at hb; subst hb; exact ⟨_,st⟩
  · intro i h st; exact ⟨_,st,⟨_,rfl⟩,_,rfl,by decide,by decide⟩
  · rintro i x ⟨hi,t,rfl⟩
    refine ⟨.int (a + i * c), ?_,.int _ _⟩
    have hi2 : i < (Builtin.Range.rangeSize a b c).toNat:=by rw [← yM,← length_map]; exact hi
    simp [vJ,hi2]
structure wu (prog : Program) (w : World) (names : zE) (target : Expr) (d : D) (bs : List (Str × RV)) : Prop where
 run : ∀ (A : Around) (M : Addr → Prop) (env : Env) (s : Shared) (E : Value → Shared → Prop) (Q : Unit → Shared → Prop) (v : Value),A.handled = none → vq names env → yu names env s.heap → Rp prog w s.heap M v d →
  (∀ h' tk,yu names env h' → (∀ x r,(x,r) ∈ bs → ∃ u,yL env h' x u ∧ zt prog w s.heap M u r) → (∀ y u,(∀ r,(y,r) ∉ bs) → yL env s.heap y u → yL env h' y u) →
   (∀ a o,¬ zO names env a → s.heap.get? a = some o → h'.get? a = some o) → Q () { s with heap:=h',toks:=tk }) → wpAny (model prog w) A (assign target env v) Q E s
noncomputable def zT (names : zE) (x : Str) : Bool:=names.lookup x == some .local || names.lookup x == some .cell
theorem yd {names : zE} {x : Str} (h : zT names x = true) : names.lookup x = some .local ∨ names.lookup x = some .cell:=by
 unfold zT at h
 rcases Bool.or_eq_true_iff.mp h with h | h
 · exact .inl (by simpa using h)
 · exact .inr (by simpa using h)
theorem wu.name {names : zE} {x : Str} {p : Pos} {d : D} (hx : zT names x = true) : wu prog w names (.Name x p) d [(x,.dat d)] where
 run:=by
  intro A M env s E Q v hh N F r hQ
  refine wpAny_assign_Name (yO N F (yd hx) fun h' tk F' hv hy hk => ?_)
  refine hQ h' tk F' (fun y q hm => ?_) (fun y u hn hu => hy y u (fun e => hn (.dat d) (by rw [e]; exact .head _)) hu) fun a o ha e => (hk a ha).trans e
  have:=mem_singleton.mp hm
  cases this
  exact ⟨v,hv,r⟩
theorem qM {h h' : Heap} {b : Addr} (x : Heap.ExtBut b h h') (n : h.get? b = none) : zS h h':=fun a o e => x a o (fun q => by rw [q,n] at e; cases e) e
theorem V0 {names : zE} (N : vq names env) : ∀ (ps : List (Str × Pos)) (vs : List Value) (ds : List D),(ps.map (·.1)).Nodup → (∀ p ∈ ps,zT names p.1 = true) → zH prog w h M vs ds → ps.length = ds.length →
  ∀ (s : Shared) (E : Value → Shared → Prop) (Q : Unit → Shared → Prop),yu names env s.heap →
  (∀ h' tk,yu names env h' → (∀ x r,(x,r) ∈ ((ps.map (·.1)).zip (ds.map RV.dat)) → ∃ u,yL env h' x u ∧ zt prog w h M u r) → (∀ y u,y ∉ ps.map (·.1) → yL env s.heap y u → yL env h' y u) →
   (∀ a,¬ zO names env a → h'.get? a = s.heap.get? a) → Q () { s with heap:=h',toks:=tk }) →
  wpAny (model prog w) A (assignInOrder (ps.map fun p => assign (.Name p.1 p.2) env) vs) Q E s:=by
 intro ps
 induction ps with
 | nil =>
  intro vs ds _ _ r hl s E Q F hQ
  cases ds with
  | nil => cases r; exact assignInOrder_nil (hQ s.heap s.toks F (fun _ _ hm => by cases hm) (fun _ _ _ hu => hu) fun _ _ => rfl)
  | cons => cases hl
 | cons p ps ih =>
  intro vs ds hn hk r hl s E Q F hQ
  cases r with
  | nil => cases hl
  | @cons v vs d ds rv rs =>
   simp only [map_cons] at hn ⊢
   rw [nodup_cons] at hn
   refine assignInOrder_cons (wpAny_assign_Name (yO N F (yd (hk _ (.head _))) fun h₁ tk F₁ hv hy hh => ?_))
   refine ih vs ds hn.2 (fun q hq => hk q (.tail _ hq)) rs (by simpa using hl) _ E Q F₁ fun h₂ tk₂ F₂ hb hy₂ hh₂ => ?_
   refine hQ h₂ tk₂ F₂ (fun x r hm => ?_) (fun y u hm hu => ?_) fun a ha => (hh₂ a ha).trans (hh a ha)
   · simp only [map_cons,zip_cons_cons] at hm
     rcases mem_cons.mp hm with e | hm
     · cases e
       exact ⟨v,hy₂ _ _ hn.1 hv,rv⟩
     · exact hb x r hm
   · simp only [map_cons,mem_cons,not_or] at hm
     exact hy₂ y u hm.2 (hy y u hm.1 hu)
theorem zh (ps : List (Str × Pos)) : assignEach (ps.map fun p => Expr.Name p.1 p.2) env = ps.map fun p => (false,assign (.Name p.1 p.2) env):=by
 induction ps with
 | nil => rfl
 | cons p ps ih => rw [map_cons,map_cons,← ih]; rfl
theorem wu.tuple {names : zE} {elts : List Expr} (ps : List (Str × Pos)) {k : Nat} {pos : Pos} {ds : List D} (he : elts = ps.map fun p => Expr.Name p.1 p.2) (hn : (ps.map (·.1)).Nodup) (hk : (ps.all fun p => zT names p.1) = true) (hl : ps.length = ds.length) :
  wu prog w names (.Tuple elts k pos) (.tup ds) ((ps.map (·.1)).zip (ds.map RV.dat)) where
 run:=by
  intro A M env s E Q v hh N F r hQ
  obtain ⟨a,vs,rfl,⟨n,p⟩,_,rs⟩:=r.tup_inv
  subst he
  have hlen : (assignEach (ps.map fun p => Expr.Name p.1 p.2) env).length = vs.toArray.size:=by rw [zh]; simp [hl,rs.length]
  refine assign_Tuple_tuple hh ⟨_,p,rfl,n,rfl⟩ hlen ?_ fun h₁ x₁ => ?_
  · rw [zh,List.findIdx?_eq_none_iff]
    intro q hq
    obtain ⟨z,_,rfl⟩:=mem_map.mp hq
    rfl
  · have k₁ : zS s.heap h₁:=qM x₁ (zc _)
    rw [zh,map_map]
    refine V0 (h:=s.heap) (M:=M) N ps vs ds hn (fun q hq => all_eq_true.mp hk q hq) rs hl _ E Q (F.to fun a o _ e => k₁ a o e) fun h₂ tk F₂ hb hy hh₂ => ?_
    refine hQ h₂ tk F₂ hb (fun y u hm hu => hy y u (fun hy' => ?_) (hu.ext k₁)) fun a o ha e => (hh₂ a ha).trans (k₁ a o e)
    obtain ⟨q,hq,e⟩:=mem_map.mp hy'
    obtain ⟨i,hi,e2⟩:=List.getElem_of_mem hq
    have hi' : i < ds.length:=hl ▸ hi
    refine hm (.dat ds[i]) ?_
    have : ((ps.map (·.1)).zip (ds.map RV.dat))[i]? = some (y,.dat ds[i]):=by
     simp [List.getElem?_zip_eq_some,hi,hi',e2,e]
    exact mem_of_getElem? this
theorem vI {target : Expr} {I : Addr} {v : Value} {s : Shared} {E : Value → Shared → Prop} {Q : Unit → Shared → Prop} {o : Obj} (ho : s.heap.get? I = some o) (hn : x8 o) (h : Q () s) :
   wpAny (model prog w) A (letOwnedTupleGo target (.ref I) v) Q E s:=by
 obtain ⟨_,n,hc,hn,_⟩:=hn
 have key : ∀ a,wpAny (model prog w) A (do
    let o ← load I
    match o.cls,o.data with
    | .type n,.fields vs =>
     if ["enumerate","zip","dict_itemiterator","dict_reverseitemiterator","odict_iterator","itertools.zip_longest","itertools.pairwise"].contains n && vs[0]? == some (rawInt a) then
      rule "for.unpacks-the-owned-tuple"
      updateField I 0 .none
    | _,_ => pure ()) Q E s:=by
   intro a
   refine wpAny_bind (wpAny_load ho ?_)
   rw [hc]
   cases o.data with
   | fields vs => simp only [hn,Bool.false_and,false_eq_true,if_false]; exact wpAny_pure h
   | _ => exact wpAny_pure h
 unfold letOwnedTupleGo
 split
 · cases v with
   | ref a => exact key a
   | _ => exact wpAny_pure h
 · cases v with
   | ref a => exact key a
   | _ => exact wpAny_pure h
 · exact wpAny_pure h
noncomputable def xl (prog : Program) (w : World) (A : Around) (h : Heap) (ifs : List Expr) (env : Env) (b : Bool) : Prop :=
 ∀ (s : Shared) (E : Value → Shared → Prop) (Q : Bool → Shared → Prop),zS h s.heap → (∀ s',Keeps s s' → Q b s') →
  wpAny (model prog w) A (forIn ifs true fun c r => if r = true then do let ok ← isTrue c env (eval c env); pure (ForInStep.yield ok) else pure (ForInStep.yield r)) Q E s
theorem xl.nil : xl prog w A h [] env true:=fun s E Q k hQ => wpAny_tests_nil (hQ s (zF s))
theorem xl.one {c : Expr} {b : Bool} (x : Tv prog w A h c env b) : xl prog w A h [c] env b:=fun s E Q k hQ => wpAny_tests_one (x s E Q k hQ)
theorem zk : ∀ (names : zE) (n : Nat) (acc : List (Str × Addr)),cellsFrom n names acc = cellsFrom n names [] ++ acc
 | [],_,acc => rfl
 | (x,k) :: r,n,acc => by
  unfold cellsFrom
  split
  · rw [zk r (n + 1) ((x,n) :: acc),zk r (n + 1) [(x,n)],List.append_assoc]; rfl
  · exact zk r n acc
theorem yT : ∀ (names : zE) (n : Nat) (acc : List (Str × Addr)) (x : Str),(x,NameKind.cell) ∈ names ∨ (acc.lookup x).isSome = true → ((cellsFrom n names acc).lookup x).isSome = true
 | [],_,_,_,h => h.elim (fun e => by cases e) id
 | (y,k) :: r,n,acc,x,h => by
  unfold cellsFrom
  split
  · refine yT r (n + 1) ((y,n) :: acc) x ?_
    rcases h with h | h
    · rcases mem_cons.mp h with e | h
      · cases e; exact .inr (by simp)
      · exact .inl h
    · refine .inr ?_
      rw [lookup_cons]
      cases x == y <;> simp [h]
  · rename_i hk
    refine yT r n acc x ?_
    rcases h with h | h
    · rcases mem_cons.mp h with e | h
      · cases e; exact absurd rfl hk
      · exact .inl h
    · exact .inr h
theorem yH : ∀ (names : zE) (n : Nat) (acc : List (Str × Addr)) (x : Str) (c : Addr),(x,c) ∈ cellsFrom n names acc → (x,NameKind.cell) ∈ names ∨ (x,c) ∈ acc
 | [],_,_,_,_,h => .inr h
 | (y,k) :: r,n,acc,x,c,h => by
  unfold cellsFrom at h
  split at h
  · rename_i hk
    rcases yH r (n + 1) ((y,n) :: acc) x c h with q | q
    · exact .inl (.tail _ q)
    · rcases mem_cons.mp q with e | q
      · cases e; rw [beq_iff_eq.mp hk]; exact .inl (.head _)
      · exact .inr q
  · rcases yH r n acc x c h with q | q
    · exact .inl (.tail _ q)
    · exact .inr q
theorem jM {M' : Model} {scope : Scope} {cl : List (Str × Addr)} {s : Shared} {E : Value → Shared → Prop} {Q : Env → Shared → Prop}
  (hQ : Q { scope,locals:=s.heap.objs.size,globals:=env.globals,cells:=cellsFrom (s.heap.objs.size + 1) scope.names cl,qual:=env.qual,func:=none,code:=env.code,frame:=env.frame,builtins:=env.builtins }
   { s with heap:=pushCells (s.heap.push { cls:=.type "dict",data:=.dict #[] }) scope.names }) :
  wpAny M' A (newFunctionEnv scope env.globals cl [] env.qual none .none (some env)) Q E s:=by
 simp only [newFunctionEnv,Option.isSome_some,if_true]
 refine wpAny_bind (wpAny_alloc ?_)
 refine wpAny_bind (wpAny_layCells _ (fun name kind cells => by cases hkc : kind == NameKind.cell <;> simp [hkc]) _ _ _ _ ?_)
 rw [show ({ s with heap:=s.heap.push { cls:=.type "dict",data:=.dict #[] } } : Shared).heap.objs.size = s.heap.objs.size + 1 from Heap.size_push ..]
 simp only [forIn_nil]
 exact wpAny_bind (wpAny_pure (wpAny_pure hQ))
noncomputable def yQ (names : zE) (scope : Scope) : Bool :=
 (scope.kind == .function) && (scope.names.all fun p => p.2 != .free || (names.lookup p.1 == some .cell || names.lookup p.1 == some .free)) && (scope.names.all fun p => p.2 != .local || scope.names.lookup p.1 == some .local) &&
  (scope.names.all fun p => p.2 != .cell || scope.names.lookup p.1 == some .cell) && (scope.names.all fun p => p.2 != .free || (p.1 != ("__classdict__" : Str)))
structure zAG (names : zE) (scope : Scope) : Prop where
 fn : scope.kind = .function
 free : ∀ x,(x,NameKind.free) ∈ scope.names → (names.lookup x = some .cell ∨ names.lookup x = some .free) ∧ (x == ("__classdict__" : Str)) = false
 loc : ∀ p ∈ scope.names,p.2 = .local → scope.names.lookup p.1 = some .local
 cell : ∀ x,(x,NameKind.cell) ∈ scope.names → scope.names.lookup x = some .cell
theorem vh {names : zE} {scope : Scope} (h : yQ names scope = true) : zAG names scope:=by
 simp only [yQ,and_eq_true] at h
 obtain ⟨⟨⟨⟨h1,h2⟩,h3⟩,h4⟩,h5⟩:=h
 refine ⟨by simpa using h1,fun x hx => ⟨?_, ?_⟩,fun p hp hk => ?_,fun x hx => ?_⟩
 · have:=all_eq_true.mp h2 _ hx
   simpa using this
 · have:=all_eq_true.mp h5 _ hx
   simpa using this
 · have:=all_eq_true.mp h3 _ hp
   rw [hk] at this
   simpa using this
 · have:=all_eq_true.mp h4 _ hx
   simpa using this
theorem Xo {scope : Scope} : ∀ (ns : zE) (acc : List (Str × Addr)),(∀ p ∈ ns,p.2 = .free → ∃ c,env.cells.lookup p.1 = some c) → (∀ x c,acc.lookup x = some c → env.cells.lookup x = some c) →
  ∃ cl,(forIn ns acc (fun (p : Str × NameKind) cs => (if (p.2 == NameKind.free) = true then (do let c ← cellOf env p.1; pure (ForInStep.yield ((p.1,c) :: cs))) else pure (ForInStep.yield cs) : Sem _))) = (pure cl : Sem (List (Str × Addr))) ∧
    (∀ x c,cl.lookup x = some c → env.cells.lookup x = some c) ∧ (∀ x,((x,NameKind.free) ∈ ns ∨ (acc.lookup x).isSome = true) → (cl.lookup x).isSome = true):=by
 intro ns
 induction ns with
 | nil => exact fun acc _ ha => ⟨acc,rfl,ha,fun x h => h.elim (fun e => by cases e) id⟩
 | cons yk r ih =>
  obtain ⟨y,k⟩:=yk
  intro acc hf ha
  rw [forIn_cons]
  by_cases hk : k = .free
  · subst hk
    obtain ⟨c,hc⟩:=hf (y,.free) (.head _) rfl
    have e1 : cellOf env y = pure c:=by unfold cellOf; rw [hc]
    obtain ⟨cl,e,h1,h2⟩:=ih ((y,c) :: acc) (fun p hp => hf p (.tail _ hp)) (fun x c' hx => by
      rw [lookup_cons] at hx
      cases hb : x == y with
      | true => rw [hb] at hx; cases hx; rw [beq_iff_eq.mp hb]; exact hc
      | false => rw [hb] at hx; exact ha x c' hx)
    refine ⟨cl, ?_,h1,fun x hx => h2 x ?_⟩
    · simp only [beq_self_eq_true,if_true,e1,pure_bind]
      exact e
    · rcases hx with hx | hx
      · rcases mem_cons.mp hx with q | q
        · cases q; exact .inr (by simp)
        · exact .inl q
      · refine .inr ?_
        rw [lookup_cons]
        cases x == y <;> simp [hx]
  · have hb : (k == NameKind.free) = false:=by simpa using hk
    obtain ⟨cl,e,h1,h2⟩:=ih acc (fun p hp => hf p (.tail _ hp)) ha
    refine ⟨cl, ?_,h1,fun x hx => h2 x ?_⟩
    · simp only [hb,false_eq_true,if_false,pure_bind]
      exact e
    · rcases hx with hx | hx
      · rcases mem_cons.mp hx with q | q
        · cases q; exact absurd rfl hk
        · exact .inl q
      · exact .inr hx
theorem wN {names : zE} {scope : Scope} (N : vq names env) (hc : yQ names scope = true) :
  ∃ cl,closureFor scope env = pure cl ∧ (∀ x c,cl.lookup x = some c → env.cells.lookup x = some c) ∧ (∀ x,(x,NameKind.free) ∈ scope.names → (cl.lookup x).isSome = true):=by
 obtain ⟨cl,e,h1,h2⟩:=Xo (env:=env) (scope:=scope) scope.names [] (fun p hp hf => by
  obtain ⟨x,k⟩:=p
  cases hf
  exact N.cl x ((vh hc).free x hp).1) (fun x c hx => by cases hx)
 exact ⟨cl,by unfold closureFor; simpa using e,h1,fun x hx => h2 x (.inl hx)⟩
theorem yr {ns : zE} {x : Str} {k : NameKind} (hx : ns.lookup x = some k) :
  (ns.map fun (n,k) => if (k == NameKind.free && env.scope.kind == .function && env.kindOf n == some .cell) = true then (n,NameKind.cell) else (n,k)).lookup x =
   some (if (k == NameKind.free && env.scope.kind == .function && env.kindOf x == some .cell) = true then .cell else k):=by
 induction ns with
 | nil => cases hx
 | cons p r ih =>
  obtain ⟨n,k'⟩:=p
  rw [lookup_cons] at hx
  cases hb : x == n with
  | true =>
   rw [hb] at hx; cases hx
   obtain rfl:=beq_iff_eq.mp hb
   simp only [map_cons]
   split <;> simp
  | false =>
   rw [hb] at hx
   simp only [map_cons]
   split <;> (rw [lookup_cons,hb]; exact ih hx)
theorem Vk {names : zE} {scope : Scope} (N : vq names env) (hc : yQ names scope = true) {cl : List (Str × Addr)} (h1 : ∀ x c,cl.lookup x = some c → env.cells.lookup x = some c) (h2 : ∀ x,(x,NameKind.free) ∈ scope.names → (cl.lookup x).isSome = true)
  (C : Addr) (hlt : ∀ x c,env.cells.lookup x = some c → c < C) : vq scope.names (compEnvC scope (cellsFrom (C + 1) scope.names cl) C env) where
 fn:=by
  show scope.kind = .function
  exact (vh hc).fn
 glob:=N.glob
 bl:=N.bl
 gi:=fun x hx => by
  show (scope.names.map _).lookup x = _
  rw [yr hx]; rfl
 lo:=fun x hx => by
  show (scope.names.map _).lookup x = _
  rw [yr hx]; rfl
 ce:=fun x hx => by
  show (scope.names.map _).lookup x = _
  rw [yr hx]; rfl
 fr:=fun x hx => by
  show (scope.names.map _).lookup x = _ ∨ (scope.names.map _).lookup x = _
  rw [yr hx]
  split
  · exact .inr rfl
  · exact .inl rfl
 cl:=fun x hx => by
  show ∃ c,(cellsFrom (C + 1) scope.names cl).lookup x = some c
  refine isSome_iff_exists.mp (yT _ _ _ _ ?_)
  rcases hx with hx | hx
  · exact .inl (mem_of_lookup hx)
  · exact .inr (h2 x (mem_of_lookup hx))
 apart:=fun x y c hx hy => by
  have hx : (cellsFrom (C + 1) scope.names cl).lookup x = some c:=hx
  have hy : (cellsFrom (C + 1) scope.names cl).lookup y = some c:=hy
  rw [zk] at hx hy
  have own:=cellsFrom_ok scope.names { objs:=replicate (C + 1) { cls:=.none } } (C + 1) [] ⟨fun _ _ hm => (nomatch hm),List.Pairwise.nil⟩ (by simp)
  have hs : ({ objs:=replicate (C + 1) { cls:=.none } } : Heap).objs.size = C + 1:=by simp
  rw [hs] at own
  rw [lookup_append] at hx hy
  cases ex : (cellsFrom (C + 1) scope.names []).lookup x with
  | some cx =>
    rw [ex] at hx
    have hx : cx = c:=by simpa using hx
    subst hx
    have mx:=own.empty x cx (mem_of_lookup ex)
    cases ey : (cellsFrom (C + 1) scope.names []).lookup y with
    | some cy =>
     rw [ey] at hy
     have hy : cy = cx:=by simpa using hy
     subst hy
     exact name_of_addr own.apart (mem_of_lookup ex) (mem_of_lookup ey)
    | none =>
     rw [ey] at hy
     have hy : cl.lookup y = some cx:=by simpa using hy
     have h3:=hlt y cx (h1 y cx hy)
     have h4 : C + 1 ≤ cx:=mx.2
     exact absurd h3 (Nat.not_lt.mpr (le_trans (le_succ _) h4))
  | none =>
    rw [ex] at hx
    have hx : cl.lookup x = some c:=by simpa using hx
    have hcx:=h1 x c hx
    cases ey : (cellsFrom (C + 1) scope.names []).lookup y with
    | some cy =>
     rw [ey] at hy
     have hy : cy = c:=by simpa using hy
     subst hy
     have my:=own.empty y cy (mem_of_lookup ey)
     have h3:=hlt x cy hcx
     have h4 : C + 1 ≤ cy:=my.2
     exact absurd h3 (Nat.not_lt.mpr (le_trans (le_succ _) h4))
    | none =>
     rw [ey] at hy
     have hy : cl.lookup y = some c:=by simpa using hy
     exact N.apart x y c hcx (h1 y c hy)
end
noncomputable def xa (names : zE) (ρ : List (Str × RV)) : List (Str × RV):=ρ.filter fun p => names.lookup p.1 == some .free
section
variable {prog : Program} {w : World} {A : Around} {h : Heap} {env : Env} {M : Addr → Prop}
theorem jH {names : zE} {ρ : List (Str × RV)} {x : Str} {r : RV} (hm : (x,r) ∈ ρ) (hx : (names.lookup x == some .free) = true) : (x,r) ∈ xa names ρ :=
 mem_filter.mpr ⟨hm,hx⟩
theorem kt {α : Type} (p : α → Bool) (f : α → D) (ys : List α) (i : Nat) (y : α) (e : ys[i]? = some y) :
  ((ys.take (i + 1)).filter p).map f = if p y then ((ys.take i).filter p).map f ++ [f y] else ((ys.take i).filter p).map f:=by
 rw [take_add_one,e,List.filter_append]
 cases hp : p y <;> simp [hp]
theorem zr {h : Heap} {a : Addr} {d : D} {v} (c : zd prog w h M a d) (q : h.IsCell a v) : False:=by
 obtain ⟨o,q3,q4⟩:=q
 cases c with
 | list p _ => obtain ⟨n,p⟩:=p; rw [p] at q3; cases q3; cases q4
 | dct p _ _ _ => obtain ⟨o2,_,_,p,_,p2,_⟩:=p; rw [p] at q3; cases q3; rw [p2] at q4; cases q4
 | tab p _ => rw [p] at q3; cases q3; cases q4
 | itr p => rw [p] at q3; cases q3; cases q4
theorem yR {h : Heap} {a : Addr} {d : D} (c : zd prog w h M a d) : ∃ o,h.get? a = some o:=by
 cases c with
 | list p _ => obtain ⟨n,p⟩:=p; exact ⟨_,p⟩
 | dct p _ _ _ => obtain ⟨o,_,_,p,_⟩:=p; exact ⟨o,p⟩
 | tab p _ => exact ⟨_,p⟩
 | itr p => exact ⟨_,p⟩
theorem Rp.ref_not {h : Heap} {a : Addr} {d : D} (r : Rp prog w h M (.ref a) d) : ¬ M a:=by cases r <;> assumption
noncomputable def Xj (wr : List Addr) (s s' : Shared) : Prop:=∃ h' tk,s' = { s with heap:=h',toks:=tk } ∧ ∀ a o,a ∉ wr → s.heap.get? a = some o → h'.get? a = some o
theorem yL.to {env : Env} {h h' : Heap} {x : Str} {v : Value} (k : ∀ a o,(a = env.locals ∨ ∃ y,env.cells.lookup y = some a) → h.get? a = some o → h'.get? a = some o) : yL env h x v → yL env h' x v:=by
 rintro (⟨a,m,n,e⟩ | ⟨a,c,e,o,q1,q2⟩)
 · exact .inl ⟨a,m,n.at' fun o e => k _ o (.inl rfl) e,e⟩
 · exact .inr ⟨a,c,e,o,k _ o (.inr ⟨x,e⟩) q1,q2⟩
noncomputable def YU (prog : Program) (w : World) (env : Env) (h : Heap) (M : Addr → Prop) (ρx : List (Str × RV)) : Prop:=∀ x r,(x,r) ∈ ρx → ∃ v,yL env h x v ∧ zt prog w h M v r
noncomputable def vA (e : Expr) (n : Nat) (target iter : Expr) (acc : Value) (env : Env) (tail : Sem Unit) : Prop :=
 ∀ it,compTurn e n it acc env = (do
  standAt iter.pos
  match ← pyNext it with
  | none => pure (.done .next)
  | some v =>
   letOwnedTupleGo target it v
   assign target env v
   tail
   again (.compLoop e n it acc env))
structure K7 (prog : Program) (w : World) (names : zE) (env' : Env) (h : Heap) (M' : Addr → Prop) (T : Addr → Prop) (St : Nat → Heap → Prop) (D : Addr) (mu : List (Addr × Mine.D)) (ρx : List (Str × RV)) (i : Nat) (outs : List Mine.D) (h' : Heap) : Prop where
 ext : ∀ a o,¬ T a → h.get? a = some o → h'.get? a = some o
 st : St i h'
 fr : yu names env' h'
 acc : ∃ ys : List Value,h'.PlainList D ys.toArray ∧ zH prog w h' M' ys outs
 mem : ∀ a d,(a,d) ∈ mu → zd prog w h' M' a d
 vars : YU prog w env' h' M' ρx
noncomputable def vZ (prog : Program) (w : World) (names : zE) (env' : Env) (M' : Addr → Prop) (T : Addr → Prop) (D : Addr) (mu : List (Addr × Mine.D)) (ρx : List (Str × RV)) (outs : List Mine.D) (s s' : Shared) : Prop :=
 (∃ h' tk,s' = { s with heap:=h',toks:=tk }) ∧ (∀ a o,¬ T a → s.heap.get? a = some o → s'.heap.get? a = some o) ∧ yu names env' s'.heap ∧ (∃ ys : List Value,s'.heap.PlainList D ys.toArray ∧ zH prog w s'.heap M' ys outs) ∧ (∀ a d,(a,d) ∈ mu → zd prog w s'.heap M' a d) ∧ YU prog w env' s'.heap M' ρx
theorem k6 {α σ : Type} {B : Heap} {scope : Scope} {ρ : List (Str × RV)} {μ : σ → List (Addr × D)} {elt target iter : Expr} {gens : List Comprehension} {pos : Pos} {n : Nat} {tail : Sem Unit} {env' : Env} {ys : List α} {g : α → D} {bs : α → List (Str × RV)} {F : Nat → α → σ → List D}
   {I D : Addr} {W : List Addr} {fp wr : List Addr} {P : Nat → Value → Prop} {St : Nat → Heap → Prop} {s₂ s₄ : Shared} {M' T : Addr → Prop} {R : Result → Shared → Prop} {Pc : Nat → σ → List Mine.D → Prop} {c₀ : σ} {outs₀ : List Mine.D} {ρx : List (Str × RV)}
   (hct : vA (.ListComp elt gens scope pos) n target iter (.ref D) env' tail)
   (N : vq scope.names env') (hh : A.handled = none) (src : Src prog w A h M (ys.map g) I fp wr P St s₂) (hM' : ∀ a,M' a ↔ (M a ∨ T a ∨ a ∈ wr)) (hT : ∀ a,T a ↔ (a = D ∨ a ∈ W ∨ zO scope.names env' a))
   (base : zS B h) (hold : ∀ a,M a → ∃ o,h.get? a = some o) (hTM : ∀ a o,T a → h.get? a = some o → M a) (hTB : ∀ a,T a → B.get? a = none) (hfp : ∀ a,T a → a ∉ fp) (hDF : ¬ zO scope.names env' D) (hDW : D ∉ W)
   (hWF : ∀ a ∈ W,¬ zO scope.names env' a) (hWμ : ∀ c,∀ a ∈ W,∃ d,(a,d) ∈ μ c) (hpl : ∀ c a d,(a,d) ∈ μ c → ¬ zO scope.names env' a ∧ ∃ o,h.get? a = some o)
   (hcl : ∀ x c,env'.cells.lookup x = some c → (scope.names.lookup x = some .cell ∨ ∃ v,h.IsCell c v ∧ ¬ T c))
   (hcap : ∀ x r,(x,r) ∈ xa scope.names ρ → ∃ v,zt prog w h M v r ∧ ∃ c,env'.cells.lookup x = some c ∧ h.IsCell c (some v) ∧ ¬ T c ∧ (x == ("__classdict__" : Str)) = false)
   (hρx : ∀ y ∈ ys,∀ x r,(x,r) ∈ ρx → ∀ r',(x,r') ∉ bs y) (hasg : ∀ y ∈ ys,wu prog w scope.names target (g y) (bs y)) (hapart : ∀ y ∈ ys,∀ x r,(x,r) ∈ bs y → scope.names.lookup x ≠ some .free)
   (turn : ∀ i y c outs s E,ys[i]? = some y → Pc i c outs → (∀ a o,¬ T a → h.get? a = some o → s.heap.get? a = some o) → En prog w B scope.names env' s.heap M' (bs y ++ (ρx ++ xa scope.names ρ)) (μ c) → yu scope.names env' s.heap → (∃ vs : List Value,s.heap.PlainList D vs.toArray ∧ zH prog w s.heap M' vs outs) →
     wpAny (model prog w) A tail (fun _ s' => ∃ c' outs',Pc (i + 1) c' outs' ∧ vZ prog w scope.names env' M' T D (μ c') ρx outs' s s') E s)
   (hp : Pc 0 c₀ outs₀) (inv : K7 prog w scope.names env' h M' T St D (μ c₀) ρx 0 outs₀ s₄.heap)
   (done : ∀ c outs s',Pc ys.length c outs → vZ prog w scope.names env' M' T D (μ c) ρx outs { s₄ with heap:=h } s' → R (.ok .next) s') :
   codeAny (model prog w) A (.compLoop (.ListComp elt gens scope pos) n (.ref I) (.ref D) env') R s₄:=by
 have hTF : ∀ a,zO scope.names env' a → T a:=fun a x => (hT a).mpr (.inr (.inr x))
 have hTD : T D:=(hT D).mpr (.inl rfl)
 have hTW : ∀ a ∈ W,T a:=fun a x => (hT a).mpr (.inr (.inl x))
 have hMn : ∀ a o,M' a → h.get? a = some o → M a:=by
   intro a o m e
   rcases (hM' a).mp m with m | m | m
   · exact m
   · exact hTM a o m e
   · rw [src.fresh a m] at e; cases e
 have hlen : (ys.map g).length = ys.length:=length_map ..
 refine codeAny_loop rfl (fun k s' => ∃ i h' tk c outs,s' = { s₄ with heap:=h',toks:=tk } ∧ i ≤ ys.length ∧ k = ys.length + 1 - i ∧ Pc i c outs ∧ K7 prog w scope.names env' h M' T St D (μ c) ρx i outs h') ?_ (ys.length + 1)
   ⟨0,s₄.heap,s₄.toks,c₀,outs₀,rfl,zero_le _,rfl,hp,inv⟩
 rintro k s' ⟨i,h',tk,c,outs,rfl,hi,rfl,hP,J⟩
 show wpAny _ A ((compTurn (.ListComp elt gens scope pos) n (.ref I) (.ref D) env').onRaise (fun x => do noteFrame x env'; theTreesLotGoes x)) _ _ _
 refine wpAny_noted ?_
 rw [hct]
 refine wpAny_bind (wpAny_standAt (wpAny_bind ?_))
 obtain ⟨out,hacc,hout⟩:=J.acc
 have hmM : ∀ a d,(a,d) ∈ μ c → ¬ zO scope.names env' a ∧ a ∉ wr:=fun a d m => ⟨(hpl c a d m).1,fun z => by obtain ⟨o,e⟩:=(hpl c a d m).2; rw [src.fresh a z] at e; cases e⟩
 have hDw : D ∉ wr:=fun x => hfp D hTD (src.W.sub _ x)
 have hfrw : ∀ a,(a = env'.locals ∨ ∃ y,env'.cells.lookup y = some a) → a ∉ wr:=fun a q z => by
   rcases q with q | ⟨y,q⟩
   · exact hfp a (hTF a (.inl q)) (src.W.sub _ z)
   · rcases hcl y a q with hx | ⟨v,⟨o,q1,q2⟩,t⟩
     · exact hfp a (hTF a (.inr ⟨y,hx,q⟩)) (src.W.sub _ z)
     · rw [src.fresh a z] at q1; cases q1
 by_cases hlt : i < ys.length
 · refine src.W.item i _ _ _ (by rw [hlen]; exact hlt) J.st fun v h₁ tk₁ hPv hst₁ hk₁ => ?_
   obtain ⟨d,hd,rd⟩:=src.item i v hPv
   have hy : ys[i]? = some ys[i]:=by simp [hlt]
   have hmy : ys[i] ∈ ys:=getElem_mem hlt
   have hd' : d = g ys[i]:=by rw [getElem?_map,hy] at hd; simpa using hd.symm
   subst hd'
   have k₁ : ∀ a o,¬ T a → h.get? a = some o → h₁.get? a = some o:=fun a o t e => hk₁ a o (fun m => by rw [src.fresh a m] at e; cases e) (J.ext a o t e)
   have F₁ : yu scope.names env' h₁:=J.fr.to fun a o x e => hk₁ a o (fun m => hfp a (hTF a x) (src.W.sub _ m)) e
   obtain ⟨oI,hoI,hnI⟩:=src.own _ _ hst₁
   have to1 : ∀ a o,¬ M a → h.get? a = some o → h₁.get? a = some o ∧ ¬ M' a:=fun a o m e => ⟨k₁ a o (fun t => m (hTM a o t e)) e,fun z => m (hMn a o z e)⟩
   refine wpAny_bind (vI (o:=oI) hoI hnI ?_)
   refine wpAny_bind ((hasg _ hmy).run A M' env' _ _ _ v hh N F₁ (rd.to to1) fun h₂ tk₂ F₂ hb hy₂ hk₂ => ?_)
   have k₂ : ∀ a o,¬ T a → h.get? a = some o → h₂.get? a = some o:=fun a o t e => hk₂ a o (fun x => t (hTF a x)) (k₁ a o t e)
   have hst₂ : St (i + 1) h₂:=src.W.frame _ _ _ hst₁ fun b hb o e => hk₂ b o (fun x => hfp b (hTF b x) hb) e
   have m2 : ∀ a o,¬ zO scope.names env' a → a ∉ wr → h'.get? a = some o → h₂.get? a = some o:=fun a o n1 n2 e => hk₂ a o n1 (hk₁ a o n2 e)
   have hacc₂ : h₂.PlainList D out.toArray:=hacc.at fun o e => m2 D o hDF hDw e
   have to2 : ∀ a o,¬ M' a → h'.get? a = some o → h₂.get? a = some o ∧ ¬ M' a:=fun a o m e => ⟨m2 a o (fun x => m ((hM' a).mpr (.inr (.inl (hTF a x))))) (fun x => m ((hM' a).mpr (.inr (.inr x)))) e,m⟩
   have hout₂ : zH prog w h₂ M' out outs:=hout.to to2
   have hmem₂ : ∀ a d,(a,d) ∈ μ c → zd prog w h₂ M' a d:=fun a d m => (J.mem a d m).to (fun o e => m2 a o (hmM a d m).1 (hmM a d m).2 e) to2
   have hvars₂ : YU prog w env' h₂ M' ρx:=fun x r m => by
     obtain ⟨v,hv,hr⟩:=J.vars x r m
     exact ⟨v,hy₂ x v (fun r' => hρx _ hmy x r m r') (hv.to fun a o q e => hk₁ a o (hfrw a q) e),hr.to to2⟩
   have hE : En prog w B scope.names env' h₂ M' (bs ys[i] ++ (ρx ++ xa scope.names ρ)) (μ c):=by
     refine ⟨fun a o e => k₂ a o (fun t => by rw [hTB a t] at e; cases e) (base a o e),N,fun a m => ?_,fun x c' e => ?_,fun x r hm => ?_,hmem₂⟩
     · have hTlive : ∀ a,T a → ∃ o,h₂.get? a = some o:=fun a m => by
         rcases (hT a).mp m with rfl | m | m
         · obtain ⟨n,e⟩:=hacc₂; exact ⟨_,e⟩
         · obtain ⟨d,hd⟩:=hWμ c a m; exact yR (hmem₂ a d hd)
         · exact F₂.has m
       rcases (hM' a).mp m with m | m | m
       · by_cases t : T a
         · exact hTlive a t
         · obtain ⟨o,e⟩:=hold a m; exact ⟨o,k₂ a o t e⟩
       · exact hTlive a m
       · exact src.live _ _ hst₂ a m
     · rcases hcl x c' e with hx | ⟨v,⟨o,q1,q2⟩,t⟩
       · exact F₂.cell x c' hx e
       · exact ⟨v,o,k₂ _ _ t q1,q2⟩
     · rcases mem_append.mp hm with hm | hm
       · obtain ⟨u,hu,hr⟩:=hb x r hm
         refine ⟨u,hu,hr.to fun a o m e => ⟨hk₂ a o (fun x => m ((hM' a).mpr (.inr (.inl (hTF a x))))) e,m⟩⟩
       rcases mem_append.mp hm with hm | hm
       · exact hvars₂ x r hm
       · obtain ⟨v,hr,c',hc,⟨o,q1,q2⟩,t,hx⟩:=hcap x r hm
         have hfree : scope.names.lookup x = some .free:=by simpa using (mem_filter.mp hm).2
         refine ⟨v,.inr ⟨?_,c',hc,o,k₂ _ _ t q1,q2⟩,hr.to fun a o m e => ⟨k₂ a o (fun t => m (hTM a o t e)) e,fun z => m (hMn a o z e)⟩⟩
         rcases N.fr x hfree with e | e
         · exact .inr ⟨e,hx⟩
         · exact .inl e
   refine wpAny_bind (wpAny_mono (turn i ys[i] c outs { s₄ with heap:=h₂,toks:=tk₂ } _ hy hP k₂ hE F₂ ⟨out,hacc₂,hout₂⟩) (fun _ s₃ q => ?_) fun _ _ x => x)
   obtain ⟨c',outs',hP',⟨h₃,tk₃,rfl⟩,g1,g2,g3,g4,g5⟩:=q
   dsimp only at g1 g2 g3 g4 g5
   refine wpAny_pure (a:=Fin.again _) ⟨rfl,ys.length + 1 - (i + 1),Nat.sub_lt_sub_left (lt_succ_of_lt hlt) (lt_succ_self i),i + 1,h₃,tk₃,c',outs',rfl,hlt,rfl,hP',fun a o t e => g1 a o t (k₂ a o t e),src.W.frame _ _ _ hst₂ fun b hb o e => g1 b o (fun t => hfp b t hb) e,g2,g3,g4,g5⟩
 · have hin : i = ys.length:=le_antisymm hi (Nat.not_lt.mp hlt)
   subst hin
   refine src.W.done _ _ _ (by rw [hlen]; exact J.st) fun h₁ tk₁ hk₁ => ?_
   have to2 : ∀ a o,¬ M' a → h'.get? a = some o → h₁.get? a = some o ∧ ¬ M' a:=fun a o m e => ⟨hk₁ a o (fun x => m ((hM' a).mpr (.inr (.inr x)))) e,m⟩
   refine wpAny_pure (a:=Fin.done .next) (done c outs _ hP ⟨⟨h₁,tk₁,rfl⟩,fun a o t e => hk₁ a o (fun m => by rw [src.fresh a m] at e; cases e) (J.ext a o t e),J.fr.to fun a o x e => hk₁ a o (fun m => hfp a (hTF a x) (src.W.sub _ m)) e,⟨out,hacc.at fun o e => hk₁ D o hDw e,hout.to to2⟩,fun a d m => (J.mem a d m).to (fun o e => hk₁ a o (hmM a d m).2 e) to2,fun x r m => by obtain ⟨v,hv,hr⟩:=J.vars x r m; exact ⟨v,hv.to fun a o q e => hk₁ a o (hfrw a q) e,hr.to to2⟩⟩)
end
section
variable {prog : Program} {w : World} {A : Around} {B : Heap} {h : Heap} {env : Env} {M : Addr → Prop}
theorem leN {a b : Nat} (h : a ≤ b) : a ≤ b:=h
theorem ltN {a b : Nat} (h : a < b) : a < b:=h
theorem qk (names : zE) (h : Heap) : CellsOk (pushCells h names) h.objs.size (cellsFrom h.objs.size names []) :=
 cellsFrom_ok names h h.objs.size [] ⟨fun _ _ hm => (nomatch hm),List.Pairwise.nil⟩ (le_refl _)
theorem XS {σ : Type} {names : zE} {env' : Env} {M' T : Addr → Prop} {D : Addr} {W : List Addr} {μ : σ → List (Addr × Mine.D)} {outs : List Mine.D} {d : Mine.D} {s : Shared} {E : Value → Shared → Prop} {elt : Expr} {Z : σ → Prop} {ρx : List (Str × RV)}
   (hF : yu names env' s.heap) (hacc : ∃ vs : List Value,s.heap.PlainList D vs.toArray ∧ zH prog w s.heap M' vs outs) (hT : ∀ a,T a ↔ (a = D ∨ a ∈ W ∨ zO names env' a)) (hTM : ∀ a,T a → M' a) (hDF : ¬ zO names env' D) (hDW : D ∉ W) (hWF : ∀ a ∈ W,¬ zO names env' a) (hpl : ∀ c a d,(a,d) ∈ μ c → a ≠ D)
   (hz : outs.length ≤ sizeLine) (hvars : YU prog w env' s.heap M' ρx) (hcells : ∀ x c,env'.cells.lookup x = some c → zO names env' c ∨ ¬ T c)
   (he : ∀ Q : Value → Shared → Prop,(∀ v s' c',Z c' → Xj W s s' → (∀ a x,(a,x) ∈ μ c' → zd prog w s'.heap M' a x) → Rp prog w s'.heap M' v d → Q v s') → wpAny (model prog w) A (eval elt env') Q E s) :
   wpAny (model prog w) A (do let _ ← call (.builtin "list.append") [.ref D,← eval elt env']) (fun _ s' => ∃ c',Z c' ∧ vZ prog w names env' M' T D (μ c') ρx (outs ++ [d]) s s') E s:=by
 obtain ⟨out,hacc,hout⟩:=hacc
 refine wpAny_bind (he _ fun v s₁ c' hz' ef hmem rv => ?_)
 obtain ⟨h₁,tk₁,rfl,kk⟩:=ef
 dsimp only at hmem rv
 have hTD : T D:=(hT D).mpr (.inl rfl)
 have hacc₁ : h₁.PlainList D out.toArray:=hacc.at fun o e => kk D o hDW e
 refine wpAny_bind (wpAny_list_append_plain hacc₁ (fun h₂ hl₂ hs₂ => ?_) (by rw [size_toArray,hout.length]; exact hz))
 have k12 : ∀ a o,a ≠ D → h₁.get? a = some o → h₂.get? a = some o:=fun a o n e => hs₂.extBut a o n e
 have nW : ∀ a,¬ M' a → a ∉ W:=fun a m x => m (hTM a ((hT a).mpr (.inr (.inl x))))
 have nD : ∀ a,¬ M' a → a ≠ D:=fun a m x => m (x ▸ hTM D hTD)
 refine wpAny_pure ⟨c',hz',⟨h₂,tk₁,rfl⟩,fun a o t e => ?_, ?_,⟨out ++ [v],by simpa using hl₂, ?_⟩,fun a x hm => ?_, ?_⟩
 · exact k12 a o (fun z => t (z ▸ hTD)) (kk a o (fun z => t ((hT a).mpr (.inr (.inl z)))) e)
 · exact hF.to fun a o x e => k12 a o (fun z => hDF (z ▸ x)) (kk a o (fun z => hWF a z x) e)
 · refine zH.append (hout.to fun a o m e => ⟨k12 a o (nD a m) (kk a o (nW a m) e),m⟩) (.cons (rv.to fun a o m e => ⟨k12 a o (nD a m) e,m⟩) .nil)
 · exact (hmem a x hm).to (fun o e => k12 a o (hpl _ a x hm) e) fun a o m e => ⟨k12 a o (nD a m) e,m⟩
 · intro x r m
   obtain ⟨u,hu,hr⟩:=hvars x r m
   have nF : ∀ a,(a = env'.locals ∨ ∃ y,env'.cells.lookup y = some a) → a ≠ D ∧ a ∉ W:=by
    rintro a (q | ⟨y,q⟩)
    · exact ⟨fun z => hDF (.inl (z ▸ q)),fun z => hWF a z (.inl q)⟩
    · rcases hcells y a q with t | t
      · exact ⟨fun z => hDF (z ▸ t),fun z => hWF a z t⟩
      · exact ⟨fun z => t (z ▸ hTD),fun z => t ((hT a).mpr (.inr (.inl z)))⟩
   refine ⟨u,hu.to fun a o q e => k12 a o (nF a q).1 (kk a o (nF a q).2 e),hr.to fun a o m e => ⟨k12 a o (nD a m) (kk a o (nW a m) e),m⟩⟩
theorem ZC {α σ : Type} {names : zE} {scope : Scope} {ρ : List (Str × RV)} {μ : σ → List (Addr × D)} {elt target iter : Expr} {ifs : List Expr} {gens : List Comprehension} {pos pos' : Pos} {dsrc : D} {use : Option (Value → Sem Unit)} {W : List Addr} {Z : Shared → σ → Prop} {Pc : Nat → σ → List D → Prop}
  (N₀ : vq names env) (R : Rm A 0) (hc : yQ names scope = true) (ys : List α) (g : α → D) (hs : zj dsrc (ys.map g)) (bs : α → List (Str × RV)) (tail : Value → Env → Sem Unit)
  (hct : ∀ acc env',vA (.ListComp elt (⟨target,iter,ifs,0⟩ :: gens) scope pos) 0 target iter acc env' (tail acc env'))
  (hasg : ∀ y ∈ ys,wu prog w scope.names target (g y) (bs y)) (hapart : ∀ y ∈ ys,∀ x r,(x,r) ∈ bs y → scope.names.lookup x ≠ some .free) (hfs : ∀ x,foldedSetIterable iter env x = pure x)
  (hW : ∀ a ∈ W,M a ∧ B.get? a = none) (hWμ : ∀ c,∀ a ∈ W,∃ d,(a,d) ∈ μ c) (hμ : ∀ c c' a d,(a,d) ∈ μ c → ∃ d',(a,d') ∈ μ c')
  {s : Shared} {E : Value → Shared → Prop} {Q : Value → Shared → Prop}
  (hsrc : wpAny (model prog w) A (eval iter env) (fun xv s₁ => ∃ c₀,Z s₁ c₀ ∧ Pc 0 c₀ [] ∧ En prog w B names env s₁.heap M ρ (μ c₀) ∧ Rd prog w s₁.heap M xv dsrc ∧ ∀ a ∈ W,xv ≠ .ref a) E s)
  (turn : ∀ s₁ c₀,Z s₁ c₀ → ∀ i y c outs s env' M' T D E,(env'.code = env.code ∧ env'.qual = env.qual) → (∀ a,T a → a ∉ W → s₁.heap.get? a = none) → ys[i]? = some y → Pc i c outs → (∀ a,M a → M' a) → (∀ a o,M' a → s₁.heap.get? a = some o → M a) → (∀ a o,¬ T a → s₁.heap.get? a = some o → s.heap.get? a = some o) → (∀ a,T a ↔ (a = D ∨ a ∈ W ∨ zO scope.names env' a)) → (∀ a,T a → M' a) → (∀ a,T a → B.get? a = none) → ¬ zO scope.names env' D → D ∉ W → (∀ a ∈ W,¬ zO scope.names env' a) → (∀ c a d,(a,d) ∈ μ c → a ≠ D ∧ ¬ zO scope.names env' a) →
    (∀ x c,env'.cells.lookup x = some c → (scope.names.lookup x = some .cell ∨ ∃ v,s₁.heap.IsCell c v ∧ ¬ T c)) → (∀ x r,(x,r) ∈ xa scope.names ρ → ∃ v,zt prog w s₁.heap M v r ∧ ∃ c,env'.cells.lookup x = some c ∧ s₁.heap.IsCell c (some v) ∧ ¬ T c ∧ (x == ("__classdict__" : Str)) = false) →
    En prog w B scope.names env' s.heap M' (bs y ++ xa scope.names ρ) (μ c) → yu scope.names env' s.heap → (∃ vs : List Value,s.heap.PlainList D vs.toArray ∧ zH prog w s.heap M' vs outs) →
    wpAny (model prog w) A (tail (.ref D) env') (fun _ s' => ∃ c' outs',Pc (i + 1) c' outs' ∧ vZ prog w scope.names env' M' T D (μ c') [] outs' s s') E s)
  (hQ : ∀ s₁ c₀,Z s₁ c₀ → ∀ c outs acc C s',Pc ys.length c outs → Xj W s₁ s' → s₁.heap.get? C = none → (∃ m,s'.heap.Ns C m) → Rp prog w s'.heap (fun a => M a ∨ a = C) acc (.list outs) → (∀ a d,(a,d) ∈ μ c → zd prog w s'.heap (fun a => M a ∨ a = C) a d) → compPost (model prog w) A E use Q acc C (.ok .next) s') :
  wpAny (model prog w) A (comprehension (.ListComp elt (⟨target,iter,ifs,0⟩ :: gens) scope pos) scope env pos' (newList []) false (eval iter env) use) Q E s:=by
 have O:=vh hc
 obtain ⟨cl,hclos,h1,h2⟩:=wN N₀ hc
 refine wpAny_comprehension_free rfl hfs hclos O.fn (fun x hx hk => O.loc x hx hk) (wpAny_mono hsrc (fun xv s₁ q => ?_) fun _ _ x => x)
 obtain ⟨c₀,hz,hp₀,S₁,rx,hxW⟩:=q
 have turn:=turn s₁ c₀ hz
 have hQ:=hQ s₁ c₀ hz
 clear hz hsrc
 refine qS R.hh hs rx fun I fp wr P St s₂ src stay k₂ => ?_
 refine wpAny_newObj_type (jM ?_)
 dsimp only
 -- the places
 obtain ⟨h₂,tk₂,rfl,kk₂⟩:=k₂
 dsimp only at src ⊢
 generalize hH : h₂.push { cls:=.type "list",dict:=none,data:=.seq ([] : List Value).toArray } = H
 have hHsz : H.objs.size = h₂.objs.size + 1:=by rw [← hH,Heap.size_push]
 have hDget : H.get? h₂.objs.size = some { cls:=.type "list",dict:=none,data:=.seq ([] : List Value).toArray }:=by rw [← hH]; exact get?_push_size _ rfl
 have kH : zS h₂ H:=fun a o e => by rw [← hH]; exact get?_push_of_some _ e
 have hP2 : (H.push { cls:=.type "dict",data:=.dict #[] }).objs.size = H.objs.size + 1:=Heap.size_push ..
 have ok:=qk scope.names (H.push { cls:=.type "dict",data:=.dict #[] })
 rw [hP2] at ok
 have kP : zS H (pushCells (H.push { cls:=.type "dict",data:=.dict #[] }) scope.names):=fun a o e => pushCells_keeps _ _ a o (get?_push_of_some _ e)
 have k₄ : zS s₁.heap (pushCells (H.push { cls:=.type "dict",data:=.dict #[] }) scope.names):=zS.trans kk₂ (kH.trans kP)
 have fresh : ∀ a,h₂.objs.size ≤ a → s₁.heap.get? a = none:=fun a ha => by
  cases e : s₁.heap.get? a with
  | none => rfl
  | some o => exact absurd (lt_size (kk₂ a o e)) (Nat.not_lt.mpr ha)
 have hlt : ∀ x c,env.cells.lookup x = some c → c < H.objs.size:=fun x c e => by
  obtain ⟨v,o,q,_⟩:=S₁.celled x c e
  exact lt_size (kH _ _ (kk₂ _ _ q))
 have N':=Vk (env:=env) N₀ hc h1 h2 H.objs.size hlt
 -- the own cells
 have ownc : ∀ x c,(cellsFrom (H.objs.size + 1) scope.names cl).lookup x = some c → ((x,c) ∈ cellsFrom (H.objs.size + 1) scope.names [] ∧ scope.names.lookup x = some .cell) ∨ (cl.lookup x = some c ∧ scope.names.lookup x ≠ some .cell):=by
  intro x c e
  rw [zk,lookup_append] at e
  cases q : (cellsFrom (H.objs.size + 1) scope.names []).lookup x with
  | some c' =>
    rw [q] at e
    have e : c' = c:=by simpa using e
    subst e
    have m:=mem_of_lookup q
    refine .inl ⟨m,O.cell x ?_⟩
    rcases yH _ _ _ _ _ m with h | h
    · exact h
    · cases h
  | none =>
    rw [q] at e
    refine .inr ⟨by simpa using e,fun hx => ?_⟩
    have:=yT scope.names (H.objs.size + 1) [] x (.inl (mem_of_lookup hx))
    rw [q] at this; cases this
 have F₄ : yu scope.names (compEnvC scope (cellsFrom (H.objs.size + 1) scope.names cl) H.objs.size env) (pushCells (H.push { cls:=.type "dict",data:=.dict #[] }) scope.names):=by
  refine ⟨⟨_,(Heap.Ns.new H (.type "dict")).keeps (pushCells_keeps _ _)⟩,fun x c hx e => ?_⟩
  rcases ownc x c e with ⟨m,_⟩ | ⟨_,n⟩
  · exact ⟨_,(ok.empty x c m).1⟩
  · exact absurd hx n
 have hF : ∀ a,zO scope.names (compEnvC scope (cellsFrom (H.objs.size + 1) scope.names cl) H.objs.size env) a → H.objs.size ≤ a:=by
  rintro a (rfl | ⟨x,hx,e⟩)
  · exact le_refl _
  · rcases ownc x a e with ⟨m,_⟩ | ⟨_,n⟩
    · exact Nat.le_of_succ_le (ok.empty x a m).2
    · exact absurd hx n
 have hFf : ∀ a,zO scope.names (compEnvC scope (cellsFrom (H.objs.size + 1) scope.names cl) H.objs.size env) a → s₁.heap.get? a = none:=fun a x => fresh a (leN (by have:=leN (hF a x); omega))
 have live : ∀ c a d,(a,d) ∈ μ c → ∃ o,s₁.heap.get? a = some o:=fun c a d m => by
  obtain ⟨d',m'⟩:=hμ c c₀ a d m
  exact yR (S₁.mem a d' m')
 have hWl : ∀ a ∈ W,∃ o,s₁.heap.get? a = some o:=fun a m => S₁.old a (hW a m).1
 have hDW : h₂.objs.size ∉ W:=fun z => by obtain ⟨o,e⟩:=hWl _ z; rw [fresh _ (le_refl _)] at e; cases e
 have hcellW : ∀ a ∈ W,∀ v,¬ s₁.heap.IsCell a v:=fun a m v q => by
  obtain ⟨d,hd⟩:=hWμ c₀ a m
  exact zr (S₁.mem a d hd) q
 have nT : ∀ c v,s₁.heap.IsCell c v → ¬ (c = h₂.objs.size ∨ c ∈ W ∨ zO scope.names (compEnvC scope (cellsFrom (H.objs.size + 1) scope.names cl) H.objs.size env) c):=by
  rintro c v ⟨o,q1,q2⟩ (rfl | z | z)
  · rw [fresh _ (le_refl _)] at q1; cases q1
  · exact hcellW c z v ⟨o,q1,q2⟩
  · rw [hFf c z] at q1; cases q1
 have hcl' : ∀ x c,(compEnvC scope (cellsFrom (H.objs.size + 1) scope.names cl) H.objs.size env).cells.lookup x = some c → (scope.names.lookup x = some .cell ∨ ∃ v,s₁.heap.IsCell c v ∧ ¬ (c = h₂.objs.size ∨ c ∈ W ∨ zO scope.names (compEnvC scope (cellsFrom (H.objs.size + 1) scope.names cl) H.objs.size env) c)):=by
  intro x c e
  rcases ownc x c e with ⟨_,hx⟩ | ⟨hx,_⟩
  · exact .inl hx
  · obtain ⟨v,q⟩:=S₁.celled x c (h1 x c hx)
    exact .inr ⟨v,q,nT c v q⟩
 have hcap' : ∀ x r,(x,r) ∈ xa scope.names ρ → ∃ v,zt prog w s₁.heap M v r ∧ ∃ c,(compEnvC scope (cellsFrom (H.objs.size + 1) scope.names cl) H.objs.size env).cells.lookup x = some c ∧ s₁.heap.IsCell c (some v) ∧ ¬ (c = h₂.objs.size ∨ c ∈ W ∨ zO scope.names (compEnvC scope (cellsFrom (H.objs.size + 1) scope.names cl) H.objs.size env) c) ∧ (x == ("__classdict__" : Str)) = false:=by
  intro x r hm
  have hm2:=mem_filter.mp hm
  have hfree : scope.names.lookup x = some .free:=by simpa using hm2.2
  obtain ⟨v,hv,hr⟩:=S₁.vars x r hm2.1
  have hmf:=mem_of_lookup hfree
  obtain ⟨ho,hcd⟩:=O.free x hmf
  refine ⟨v,hr, ?_⟩
  rcases hv with ⟨a,_⟩ | ⟨_,c,e,q⟩
  · exfalso
    rcases ho with ho | ho
    · rw [S₁.n.ce x ho] at a; cases a
    · rcases S₁.n.fr x ho with q | q <;> (rw [q] at a; cases a)
  · refine ⟨c, ?_,q,nT c _ q,hcd⟩
    show (cellsFrom (H.objs.size + 1) scope.names cl).lookup x = some c
    obtain ⟨c',hc'⟩:=isSome_iff_exists.mp (h2 x hmf)
    have:=h1 x c' hc'
    rw [e] at this; cases this
    rw [zk,lookup_append]
    cases q2 : (cellsFrom (H.objs.size + 1) scope.names []).lookup x with
    | none => simpa using hc'
    | some c2 =>
      exfalso
      rcases yH _ _ _ _ _ (mem_of_lookup q2) with h | h
      · rw [O.cell x h] at hfree; cases hfree
      · cases h
 have hfpT : ∀ a,(a = h₂.objs.size ∨ a ∈ W ∨ zO scope.names (compEnvC scope (cellsFrom (H.objs.size + 1) scope.names cl) H.objs.size env) a) → a ∉ fp:=by
  rintro a (rfl | z | z) hb
  · exact lt_irrefl _ (src.lo _ hb)
  · rcases stay a hb with x | x
    · obtain ⟨o,e⟩:=hWl a z; rw [src.fresh a x] at e; cases e
    · exact hxW a z x
  · have q:=leN (hF a z)
    have q2:=ltN (src.lo a hb)
    dsimp only at q2
    omega
 have hTB : ∀ a,(a = h₂.objs.size ∨ a ∈ W ∨ zO scope.names (compEnvC scope (cellsFrom (H.objs.size + 1) scope.names cl) H.objs.size env) a) → B.get? a = none:=by
  rintro a (rfl | z | z)
  · cases e : B.get? h₂.objs.size with
    | none => rfl
    | some o => have:=S₁.base _ _ e; rw [fresh _ (le_refl _)] at this; cases this
  · exact (hW a z).2
  · cases e : B.get? a with
    | none => rfl
    | some o => have:=S₁.base _ _ e; rw [hFf a z] at this; cases this
 have loop : ∀ s₄ : Shared,s₄ = { s₁ with heap:=pushCells (H.push { cls:=.type "dict",data:=.dict #[] }) scope.names,toks:=tk₂ } →
    codeAny (model prog w) A (.compLoop (.ListComp elt (⟨target,iter,ifs,0⟩ :: gens) scope pos) 0 (.ref I) (.ref h₂.objs.size) (compEnvC scope (cellsFrom (H.objs.size + 1) scope.names cl) H.objs.size env))
      (compPost (model prog w) A E use Q (.ref h₂.objs.size) H.objs.size) s₄:=by
  rintro s₄ rfl
  refine k6 (M:=M) (M':=fun a => M a ∨ (a = h₂.objs.size ∨ a ∈ W ∨ zO scope.names (compEnvC scope (cellsFrom (H.objs.size + 1) scope.names cl) H.objs.size env) a) ∨ a ∈ wr) (T:=fun a => a = h₂.objs.size ∨ a ∈ W ∨ zO scope.names (compEnvC scope (cellsFrom (H.objs.size + 1) scope.names cl) H.objs.size env) a) (W:=W) (ρ:=ρ) (μ:=μ) (bs:=bs) (Pc:=Pc) (F:=fun _ _ _ => []) (c₀:=c₀) (outs₀:=[])
    (hct _ _) N' R.hh src (fun a => Iff.rfl) (fun a => Iff.rfl) S₁.base S₁.old ?_ hTB hfpT ?_ hDW ?_ hWμ ?_ hcl' hcap' (ρx:=[]) (fun _ _ _ _ m => by cases m) hasg hapart ?_ hp₀ ?_ ?_
  · rintro a o (rfl | z | z) e
    · rw [fresh _ (le_refl _)] at e; cases e
    · exact (hW a z).1
    · rw [hFf a z] at e; cases e
  · intro z
    have:=leN (hF _ z)
    omega
  · intro a m z
    obtain ⟨o,e⟩:=hWl a m
    rw [hFf a z] at e; cases e
  · intro c a d m
    obtain ⟨o,e⟩:=live c a d m
    exact ⟨fun z => (by rw [hFf a z] at e; cases e),o,e⟩
  · intro i y c outs s E hy hP k hE F hacc
    refine turn i y c outs s _ _ _ _ E ⟨rfl,rfl⟩ (fun a t n => t.elim (fun e => e ▸ fresh _ (le_refl _)) fun t => t.elim (fun z => absurd z n) (hFf a)) hy hP (fun a m => .inl m) ?_ k (fun a => Iff.rfl) (fun a t => .inr (.inl t)) hTB ?_ hDW ?_ ?_ hcl' hcap' hE F hacc
    · rintro a o (m | (rfl | z | z) | z) e
      · exact m
      · rw [fresh _ (le_refl _)] at e; cases e
      · exact (hW a z).1
      · rw [hFf a z] at e; cases e
      · rw [src.fresh a z] at e; cases e
    · intro z
      have:=leN (hF _ z)
      omega
    · intro a m z
      obtain ⟨o,e⟩:=hWl a m
      rw [hFf a z] at e; cases e
    · intro c a d m
      obtain ⟨o,e⟩:=live c a d m
      exact ⟨fun z => (by rw [z,fresh _ (le_refl _)] at e; cases e),fun z => (by rw [hFf a z] at e; cases e)⟩
  · refine ⟨fun a o _ e => k₄ a o e, ?_,F₄,⟨[],⟨_,kP _ _ hDget⟩,.nil⟩,fun a d m => ?_,fun _ _ m => by cases m⟩
    · exact src.W.frame _ _ _ src.st fun b _ o e => kP b o (kH b o e)
    · refine (S₁.mem a d m).to (fun o e => k₄ a o e) fun a o m e => ⟨k₄ a o e, ?_⟩
      rintro (z | (rfl | z | z) | z)
      · exact m z
      · rw [fresh _ (le_refl _)] at e; cases e
      · exact m (hW a z).1
      · rw [hFf a z] at e; cases e
      · rw [src.fresh a z] at e; cases e
  · rintro c outs s' hP ⟨⟨h',tk',rfl⟩,g1,g2,⟨vs,hl,hr⟩,g4,_⟩
    dsimp only at g1 g2 hl hr g4 ⊢
    have less : ∀ a,(M a ∨ a = H.objs.size) → (M a ∨ (a = h₂.objs.size ∨ a ∈ W ∨ zO scope.names (compEnvC scope (cellsFrom (H.objs.size + 1) scope.names cl) H.objs.size env) a) ∨ a ∈ wr):=fun a m => m.elim .inl fun e => .inr (.inl (.inr (.inr (.inl e))))
    refine hQ c outs _ _ _ hP ⟨h',tk',rfl,fun a o n e => g1 a o ?_ e⟩ (fresh _ (leN (by omega))) g2.ns (.list hl ?_ (hr.less less)) (fun a d m => (g4 a d m).to (fun _ e => e) fun b o m e => ⟨e,fun z => m (less b z)⟩)
    · rintro (rfl | z | z)
      · rw [fresh _ (le_refl _)] at e; cases e
      · exact n z
      · rw [hFf a z] at e; cases e
    · rintro (m | e)
      · obtain ⟨o,e⟩:=S₁.old _ m; rw [fresh _ (le_refl _)] at e; cases e
      · have e : (h₂.objs.size : Nat) = H.objs.size:=e
        omega
 exact codeAny_compStart_list (loop _ rfl) (src.W.self 0 _ _ _ (src.W.frame _ _ _ src.st fun b _ o e => kP b o (kH b o e)) (loop _ rfl))
theorem zAF {α : Type} (t : Sem Bool) (x : Sem Unit) (k : Sem α) : (t >>= fun ok => if ok = true then x >>= fun _ => k else k) = ((t >>= fun ok => if ok = true then x else pure ()) >>= fun _ => k):=by
 rw [bind_assoc]
 refine congrArg (t >>= ·) (funext fun ok => ?_)
 cases ok
 · rfl
 · rfl
theorem Qh (elt target iter : Expr) (ifs : List Expr) (scope : Scope) (pos : Pos) (acc : Value) (env' : Env) : vA (.ListComp elt [⟨target,iter,ifs,0⟩] scope pos) 0 target iter acc env'
   ((forIn ifs true fun c r => if r = true then do let ok ← isTrue c env' (eval c env'); pure (ForInStep.yield ok) else pure (ForInStep.yield r)) >>= fun ok => if ok = true then (do let _ ← call (.builtin "list.append") [acc,← eval elt env']) else pure ()):=by
 intro it
 rw [compTurn_list]
 refine congrArg (standAt iter.pos >>= ·) (funext fun _ => congrArg (pyNext it >>= ·) (funext fun o => ?_))
 cases o
 · rfl
 · rename_i v
   refine congrArg (letOwnedTupleGo target it v >>= ·) (funext fun _ => congrArg (assign target env' v >>= ·) (funext fun _ => ?_))
   exact zAF _ _ _
theorem Zj {α : Type} {names : zE} {scope : Scope} {ρ : List (Str × RV)} {μ : List (Addr × D)} {elt target iter : Expr} {ifs : List Expr} {pos pos' : Pos} {dsrc : D} {use : Option (Value → Sem Unit)}
   (S : En prog w B names env h M ρ μ) (R : Rm A 0) (hc : yQ names scope = true)
   (hsrc : Ev prog w A h iter env (PR prog w M dsrc)) (ys : List α) (g : α → D) (hs : zj dsrc (ys.map g)) (bs : α → List (Str × RV)) (p : α → Bool) (f : α → D)
   (hasg : ∀ y ∈ ys,wu prog w scope.names target (g y) (bs y)) (hapart : ∀ y ∈ ys,∀ x r,(x,r) ∈ bs y → scope.names.lookup x ≠ some .free)
   (turn : ∀ y ∈ ys,∀ env' h' M',zS h h' → En prog w B scope.names env' h' M' (bs y ++ xa scope.names ρ) μ → xl prog w A h' ifs env' (p y) ∧ (p y = true → Ev prog w A h' elt env' (PS prog w M' (f y))))
   (hsz : ys.length ≤ sizeLine) (hfs : ∀ x,foldedSetIterable iter env x = pure x)
   {s : Shared} {E : Value → Shared → Prop} {Q : Value → Shared → Prop} (k : zS h s.heap)
   (hQ : ∀ acc C s',Keeps s s' → s.heap.get? C = none → (∃ m,s'.heap.Ns C m) → Rp prog w s'.heap (fun a => M a ∨ a = C) acc (.list ((ys.filter p).map f)) → compPost (model prog w) A E use Q acc C (.ok .next) s') :
   wpAny (model prog w) A (comprehension (.ListComp elt [⟨target,iter,ifs,0⟩] scope pos) scope env pos' (newList []) false (eval iter env) use) Q E s:=by
 refine ZC (B:=B) (M:=M) (ρ:=ρ) (dsrc:=dsrc) (Z:=fun s₁ (_ : Unit) => Keeps s s₁) (W:=[]) (μ:=fun _ => μ) (Pc:=fun i _ outs => outs = ((ys.take i).filter p).map f) S.n R hc ys g hs bs _ (Qh elt target iter ifs scope pos) hasg hapart hfs (fun a m => by cases m) (fun c a m => by cases m) (fun _ _ a d m => ⟨d,m⟩)
   (hsrc s E _ k fun xv s₁ k₁ rx => ⟨(),k₁,rfl,S.ext (k.trans (ke k₁)),rx,fun a m => by cases m⟩) ?_ ?_
 · intro s₁ c₀ hz i y c outs s₂ env' M' T D E' _ hfr hy hP hMM hMn kT hT hTM hTB hDF hDW hWF hpl hcl hcap hE F hacc
   have hmy : y ∈ ys:=mem_of_getElem? hy
   have kx : zS h s₂.heap:=fun a o e => kT a o (fun t => by have q:=ke hz a o (k a o e); rw [hfr a t (fun m => by cases m)] at q; cases q) (ke hz a o (k a o e))
   obtain ⟨ht,he⟩:=turn y hmy env' s₂.heap M' kx hE
   refine wpAny_bind (ht _ _ _ (zS.refl _) fun s₃ k₃ => ?_)
   obtain ⟨h₃,tk₃,rfl,kk⟩:=k₃
   have to3 : ∀ a o,¬ M' a → s₂.heap.get? a = some o → h₃.get? a = some o ∧ ¬ M' a:=fun a o m e => ⟨kk a o e,m⟩
   have F₃ : yu scope.names env' h₃:=F.to fun a o _ e => kk a o e
   have hm₃ : ∀ a d,(a,d) ∈ μ → zd prog w h₃ M' a d:=fun a d m => (hE.mem a d m).to (fun o e => kk a o e) to3
   obtain ⟨vs,hl,hr⟩:=hacc
   have hacc₃ : ∃ vs : List Value,h₃.PlainList D vs.toArray ∧ zH prog w h₃ M' vs outs:=⟨vs,hl.at fun o e => kk D o e,hr.to to3⟩
   have hft:=kt p f ys i y hy
   subst hP
   cases hp : p y with
   | false =>
    rw [hp,if_neg Bool.false_ne_true] at hft
    exact wpAny_pure ⟨(),_,hft.symm,⟨h₃,tk₃,rfl⟩,fun a o _ e => kk a o e,F₃,hacc₃,hm₃,fun _ _ m => by cases m⟩
   | true =>
    rw [hp,if_pos rfl] at hft
    refine wpAny_mono (XS (W:=[]) (Z:=fun _ : Unit => True) (μ:=fun _ => μ) (ρx:=[]) F₃ hacc₃ hT hTM hDF hDW hWF (fun c a d m => (hpl c a d m).1) ?_ (fun _ _ m => by cases m) (fun x c e => (hcl x c e).imp (fun q => .inr ⟨x,q,e⟩) fun ⟨_,_,t⟩ => t) fun Q q => he hp _ _ _ kk fun v s' ks rv => q v s' () trivial (by obtain ⟨h',t',e,k'⟩:=ks; exact ⟨h',t',e,fun a o _ => k' a o⟩) (fun a d m => (hm₃ a d m).to (fun o e => ke ks a o e) fun a o m e => ⟨ke ks a o e,m⟩) rv) (fun _ s' q => ?_) fun _ _ x => x
    · rw [length_map]
      exact le_trans (length_filter_le _ _) (le_trans (by rw [length_take]; exact Nat.min_le_right _ _) hsz)
    · obtain ⟨c',_,⟨h',t',e⟩,g1,g2⟩:=q
      exact ⟨c',_,hft.symm,⟨h',t',e⟩,fun a o t q => g1 a o t (kk a o q),g2⟩
 · intro s₁ c₀ hz c outs acc C s' hP ef hC hn hr _
   obtain ⟨h₁,t₁,rfl,k₁⟩:=hz
   obtain ⟨h',t',rfl,k'⟩:=ef
   subst hP
   rw [take_length] at hr
   refine hQ acc C _ ⟨h',t',rfl,fun a o e => k' a o (fun m => by cases m) (k₁ a o e)⟩ ?_ hn hr
   cases e : s.heap.get? C with
   | none => rfl
   | some o => rw [k₁ _ _ e] at hC; cases hC
end
section
variable {prog : Program} {w : World} {A : Around} {h : Heap} {env : Env} {M : Addr → Prop}
theorem Ev.compF {α : Type} {B : Heap} {names : zE} {scope : Scope} {ρ : List (Str × RV)} {μ : List (Addr × D)} {elt target iter : Expr} {ifs : List Expr} {pos : Pos} {dsrc : D}
  (S : En prog w B names env h M ρ μ) (R : Rm A 0) (hc : yQ names scope = true)
  (hsrc : Ev prog w A h iter env (PR prog w M dsrc)) (ys : List α) (g : α → D) (hs : zj dsrc (ys.map g)) (bs : α → List (Str × RV)) (p : α → Bool) (f : α → D)
  (hasg : ∀ y ∈ ys,wu prog w scope.names target (g y) (bs y)) (hapart : ∀ y ∈ ys,∀ x r,(x,r) ∈ bs y → scope.names.lookup x ≠ some .free)
  (hsz : ys.length ≤ sizeLine) (hfs : ∀ x,foldedSetIterable iter env x = pure x)
  (turn : ∀ y ∈ ys,∀ env' h' M',zS h h' → En prog w B scope.names env' h' M' (bs y ++ xa scope.names ρ) μ → xl prog w A h' ifs env' (p y) ∧ (p y = true → Ev prog w A h' elt env' (PS prog w M' (f y)))) :
  Ev prog w A h (.ListComp elt [⟨target,iter,ifs,0⟩] scope pos) env (PS prog w M (.list ((ys.filter p).map f))):=by
 intro s E Q k hQ
 rw [eval_ListComp]
 refine Zj S R hc hsrc ys g hs bs p f hasg hapart turn hsz hfs (use:=none) k ?_
 rintro acc C s' ks hC ⟨m,n⟩ r
 obtain ⟨h',tk,rfl,kk⟩:=ks
 refine ⟨m,n,fun h'' sb => hQ acc _ ⟨h'',tk,rfl,fun a o e => sb.extBut a o (fun q => by rw [q,hC] at e; cases e) (kk a o e)⟩ (r.to fun a o m' e => ⟨sb.extBut a o (fun q => m' (.inr q)) e,fun x => m' (.inl x)⟩)⟩
theorem Ev.compM {α : Type} {B : Heap} {names : zE} {scope : Scope} {ρ : List (Str × RV)} {μ : List (Addr × D)} {elt target iter : Expr} {pos : Pos} {dsrc : D}
  (S : En prog w B names env h M ρ μ) (R : Rm A 0) (hc : yQ names scope = true)
  (hsrc : Ev prog w A h iter env (PR prog w M dsrc)) (ys : List α) (g : α → D) (hs : zj dsrc (ys.map g)) (bs : α → List (Str × RV)) (f : α → D)
  (hasg : ∀ y ∈ ys,wu prog w scope.names target (g y) (bs y)) (hapart : ∀ y ∈ ys,∀ x r,(x,r) ∈ bs y → scope.names.lookup x ≠ some .free)
  (hsz : ys.length ≤ sizeLine) (hfs : ∀ x,foldedSetIterable iter env x = pure x)
  (turn : ∀ y ∈ ys,∀ env' h' M',zS h h' → En prog w B scope.names env' h' M' (bs y ++ xa scope.names ρ) μ → Ev prog w A h' elt env' (PS prog w M' (f y))) :
  Ev prog w A h (.ListComp elt [⟨target,iter,[],0⟩] scope pos) env (PS prog w M (.list (ys.map f))):=by
 have:=Ev.compF (pos:=pos) S R hc hsrc ys g hs bs (fun _ => true) f hasg hapart hsz hfs (fun y hy env' h' M' kx hE => ⟨xl.nil,fun _ => turn y hy env' h' M' kx hE⟩)
 rwa [List.filter_eq_self.mpr fun _ _ => rfl] at this
inductive xK (prog : Program) (w : World) (h : Heap) (M : Addr → Prop) : List Value → List D → Prop
 | nil : xK prog w h M [] []
 | cons {v : Value} {vs : List Value} {d : D} {ds : List D} : Rd prog w h M v d → xK prog w h M vs ds → xK prog w h M (v :: vs) (d :: ds)
inductive yy (prog : Program) (w : World) (A : Around) (h : Heap) (env : Env) (M : Addr → Prop) : List Expr → List D → Prop
 | nil : yy prog w A h env M [] []
 | cons {e : Expr} {es : List Expr} {d : D} {ds : List D} : Ev prog w A h e env (PR prog w M d) → yy prog w A h env M es ds → (∀ rest,starEach (e :: rest) env = (false,eval e env) :: starEach rest env) → yy prog w A h env M (e :: es) (d :: ds)
theorem yy.noStar {es : List Expr} {ds : List D} {pos : Pos} (x : yy prog w A h env M es ds) : (backTo pos (starEach es env)).any (·.1) = false:=by
 induction x with
 | nil => rfl
 | cons _ _ hs ih =>
  rw [hs]
  show (false || _) = false
  rw [Bool.false_or]; exact ih
theorem Qg {es : List Expr} {ds : List D} {pos : Pos} (x : yy prog w A h env M es ds) : ∀ (s : Shared) (E : Value → Shared → Prop) (Q : List Value → Shared → Prop),zS h s.heap →
  (∀ vs s',Keeps s s' → xK prog w s'.heap M vs ds → Q vs s') → wpAny (model prog w) A (spliced (backTo pos (starEach es env))) Q E s:=by
 induction x with
 | nil => intro s E Q k hQ; exact spliced_nil (hQ [] s (zF s) .nil)
 | @cons e es d ds hv _ hs ih =>
  intro s E Q k hQ
  rw [hs]
  show wpAny _ _ (spliced ((false,eval e env) :: backTo pos (starEach es env))) Q E s
  refine spliced_cons (hv s E _ k fun v s₁ k₁ r => ?_)
  exact ih s₁ E _ (k.trans (ke k₁)) fun vs s₂ k₂ rs => hQ _ s₂ (zA k₁ k₂) (.cons (r.ext (ke k₂)) rs)
theorem ZV {f : Value} {es : List Expr} {ds : List D} {pos : Pos} (x : yy prog w A h env M es ds) {s : Shared} {E : Value → Shared → Prop} {Q : Args → Shared → Prop} (k : zS h s.heap)
  (hQ : ∀ vs s',Keeps s s' → xK prog w s'.heap M vs ds → Q ⟨vs,[]⟩ s') : wpAny (model prog w) A (evalArgs f true (backTo pos (starEach es env)) []) Q E s:=by
 have key:=Qg (pos:=pos) x s E (fun vs s' => Q ⟨vs,[]⟩ s') k hQ
 cases x with
 | nil => exact evalArgs_nil3 (hQ [] s (zF s) .nil)
 | cons hv _ hs =>
  rw [hs] at key ⊢
  exact evalArgs_plain key
noncomputable def ji (B : Heap) (f : Value) : Prop:=(∀ a,f ≠ .ref a) ∨ ∃ a o fd,f = .ref a ∧ B.get? a = some o ∧ o.data = .func fd
theorem ya {M' : Model} {B : Heap} {f : Value} (K : ji B f) (h : Heap) (X : zS B h) : ∃ k,(k = Keeper.frame ∨ k = Keeper.machine ∨ k = Keeper.boundFrame) ∧ Looks M' h (keeperOf f) k:=by
 rcases K with K | ⟨a,o,fd,rfl,e,d⟩
 · refine ⟨.machine,.inr (.inl rfl), ?_⟩
   cases f with
   | ref a => exact absurd rfl (K a)
   | _ => exact Looks.now
 · refine ⟨.frame,.inl rfl,(Looks.ld (part:=none) (X a o e)).andThen ?_⟩
   rw [d]
   exact Looks.now
noncomputable def zG (prog : Program) (w : World) (k : Nat) (B : Heap) (f : Value) (ds : List D) (d : D) : Prop :=
 ∀ (A : Around) (M : Addr → Prop) (s : Shared) (E : Value → Shared → Prop) (Q : Value → Shared → Prop) (vs : List Value),Rm A k → zS B s.heap → (∀ a,M a → ∃ o,s.heap.get? a = some o) → xK prog w s.heap M vs ds →
  (∀ v s',Keeps s s' → Rp prog w s'.heap M v d → Q v s') → wpAny (model prog w) A (call f vs) Q E s
theorem Ev.call {B : Heap} {names : zE} {ρ : List (Str × RV)} {μ : List (Addr × D)} {k : Nat} (S : En prog w B names env h M ρ μ) (R : Rm A k) {fx : Str} {fp pos : Pos} {f : Value} {es : List Expr} {ds : List D} {d : D}
  (hf : Ev prog w A h (.Name fx fp) env (fun _ u => u = f)) (K : ji B f) (hx : yy prog w A h env M es ds) (hcall : zG prog w k B f ds d) : Ev prog w A h (.Call (.Name fx fp) es [] pos) env (PS prog w M d):=by
 intro s E Q kx hQ
 refine wpAny_Call_Name_kw (hf s E _ kx fun u s₁ k₁ e => ?_)
 subst e
 refine callWith_of (P:=zS B) (by show ((backTo pos (starEach es env)).any (·.1) || false) = false; rw [hx.noStar]; rfl) (fun h' X => ya K h' X) (ZV hx (kx.trans (ke k₁)) fun vs s₂ k₂ rs => ?_)
 refine ⟨S.base.trans (kx.trans ((ke k₁).trans (ke k₂))),hcall A M s₂ E Q _ R (S.base.trans (kx.trans ((ke k₁).trans (ke k₂)))) (fun a m => ?_) rs fun v s' k₃ r => hQ v s' (zA k₁ (zA k₂ k₃)) r⟩
 obtain ⟨o,e⟩:=S.old a m
 exact ⟨o,ke k₂ _ _ (ke k₁ _ _ (kx _ _ e))⟩
end
noncomputable def zW (fd : FuncData) (L f : Addr) : Env :=
 { scope:=fd.scope,locals:=L,globals:=fd.globals,cells:=cellsFrom (L + 1) fd.scope.names fd.closure,qual:=fd.qualname ++ ".<locals>.",func:=some f,code:=fd.code,frame:=some L,builtins:=fd.builtins }
structure j4 (fd : FuncData) : Prop where
 glob : fd.globals = mainGlobals
 bl : fd.builtins = builtinsNs
 fn : fd.scope.kind = .function
 co : fd.scope.isCoroutine = false
 gen : fd.scope.isGenerator = false
 free : ∀ x,(x,NameKind.free) ∈ fd.scope.names → (fd.closure.lookup x).isSome = true
 cell : ∀ x,(x,NameKind.cell) ∈ fd.scope.names → fd.scope.names.lookup x = some .cell
 apart : ∀ x y c,fd.closure.lookup x = some c → fd.closure.lookup y = some c → x = y
noncomputable def Wr (fd : FuncData) : Bool :=
 fd.globals == mainGlobals && fd.builtins == builtinsNs && fd.scope.kind == .function && !fd.scope.isCoroutine && !fd.scope.isGenerator && (fd.scope.names.all fun p => p.2 != .free) && (fd.scope.names.all fun p => p.2 != .cell || fd.scope.names.lookup p.1 == some .cell) && fd.closure.isEmpty
theorem Ql {fd : FuncData} (h : Wr fd = true) : j4 fd:=by
 simp only [Wr,and_eq_true] at h
 obtain ⟨⟨⟨⟨⟨⟨⟨h1,h2⟩,h3⟩,h4⟩,h5⟩,h6⟩,h7⟩,h8⟩:=h
 have hcl : fd.closure = []:=List.isEmpty_iff.mp h8
 refine ⟨by simpa using h1,by simpa using h2,by simpa using h3,by simpa using h4,by simpa using h5,fun x hx => ?_,fun x hx => ?_,fun x y c e => ?_⟩
 · have:=all_eq_true.mp h6 _ hx; simp at this
 · have:=all_eq_true.mp h7 _ hx; simpa using this
 · rw [hcl] at e; cases e
section
variable {prog : Program} {w : World} {A : Around} {h : Heap} {env : Env} {M : Addr → Prop}
theorem Wm {fd : FuncData} (O : j4 fd) (L f : Addr) (hlt : ∀ x c,fd.closure.lookup x = some c → c < L) : vq fd.scope.names (zW fd L f) where
 fn:=O.fn
 glob:=O.glob
 bl:=O.bl
 gi:=fun _ h => h
 lo:=fun _ h => h
 ce:=fun _ h => h
 fr:=fun _ h => .inl h
 cl:=fun x hx => by
  show ∃ c,(cellsFrom (L + 1) fd.scope.names fd.closure).lookup x = some c
  refine isSome_iff_exists.mp (yT _ _ _ _ ?_)
  rcases hx with hx | hx
  · exact .inl (mem_of_lookup hx)
  · exact .inr (O.free x (mem_of_lookup hx))
 apart:=fun x y c hx hy => by
  have hx : (cellsFrom (L + 1) fd.scope.names fd.closure).lookup x = some c:=hx
  have hy : (cellsFrom (L + 1) fd.scope.names fd.closure).lookup y = some c:=hy
  rw [zk] at hx hy
  have own:=cellsFrom_ok fd.scope.names { objs:=replicate (L + 1) { cls:=.none } } (L + 1) [] ⟨fun _ _ hm => (nomatch hm),List.Pairwise.nil⟩ (by simp)
  have hs : ({ objs:=replicate (L + 1) { cls:=.none } } : Heap).objs.size = L + 1:=by simp
  rw [hs] at own
  rw [lookup_append] at hx hy
  cases ex : (cellsFrom (L + 1) fd.scope.names []).lookup x with
  | some cx =>
    rw [ex] at hx
    have hx : cx = c:=by simpa using hx
    subst hx
    have mx:=own.empty x cx (mem_of_lookup ex)
    cases ey : (cellsFrom (L + 1) fd.scope.names []).lookup y with
    | some cy =>
     rw [ey] at hy
     have hy : cy = cx:=by simpa using hy
     subst hy
     exact name_of_addr own.apart (mem_of_lookup ex) (mem_of_lookup ey)
    | none =>
     rw [ey] at hy
     have hy : fd.closure.lookup y = some cx:=by simpa using hy
     have h3:=hlt y cx hy
     have h4 : L + 1 ≤ cx:=mx.2
     exact absurd h3 (Nat.not_lt.mpr (le_trans (le_succ _) h4))
  | none =>
    rw [ex] at hx
    have hx : fd.closure.lookup x = some c:=by simpa using hx
    cases ey : (cellsFrom (L + 1) fd.scope.names []).lookup y with
    | some cy =>
     rw [ey] at hy
     have hy : cy = c:=by simpa using hy
     subst hy
     have my:=own.empty y cy (mem_of_lookup ey)
     have h3:=hlt x cy hx
     have h4 : L + 1 ≤ cy:=my.2
     exact absurd h3 (Nat.not_lt.mpr (le_trans (le_succ _) h4))
    | none =>
     rw [ey] at hy
     have hy : fd.closure.lookup y = some c:=by simpa using hy
     exact O.apart x y c hx hy
theorem Zb {M' : Model} {names : zE} (N : vq names env) (fn : Str × Value → PUnit → Sem (ForInStep PUnit)) (hf : ∀ n v u,fn (n,v) u = (do storeName env n v; pure (.yield ⟨⟩))) : ∀ (binds : List (Str × Value)),(binds.map (·.1)).Nodup → (∀ p ∈ binds,zT names p.1 = true) →
  ∀ (s : Shared) (E : Value → Shared → Prop) (Q : PUnit → Shared → Prop),yu names env s.heap →
  (∀ h' tk,yu names env h' → (∀ x v,(x,v) ∈ binds → yL env h' x v) → (∀ y u,y ∉ binds.map (·.1) → yL env s.heap y u → yL env h' y u) →
    (∀ a,¬ zO names env a → h'.get? a = s.heap.get? a) → Q ⟨⟩ { s with heap:=h',toks:=tk }) →
  wpAny M' A (forIn binds ⟨⟩ fn) Q E s
 | [],_,_,s,E,Q,F,hQ => by
  rw [forIn_nil]; exact wpAny_pure (hQ s.heap s.toks F (fun _ _ hm => by cases hm) (fun _ _ _ hu => hu) fun _ _ => rfl)
 | p :: ps,hn,hk,s,E,Q,F,hQ => by
  obtain ⟨x,v⟩:=p
  simp only [map_cons] at hn
  rw [nodup_cons] at hn
  rw [forIn_cons,hf]
  refine wpAny_bind (wpAny_bind (yO N F (yd (hk _ (.head _))) fun h₁ tk F₁ hv hy hh => wpAny_pure ?_))
  refine Zb N fn hf ps hn.2 (fun q hq => hk q (.tail _ hq)) _ E Q F₁ fun h₂ tk₂ F₂ hb hy₂ hh₂ => ?_
  refine hQ h₂ tk₂ F₂ (fun x' v' hm => ?_) (fun y u hm hu => ?_) fun a ha => (hh₂ a ha).trans (hh a ha)
  · rcases mem_cons.mp hm with e | hm
    · cases e; exact hy₂ _ _ hn.1 hv
    · exact hb _ _ hm
  · simp only [map_cons,mem_cons,not_or] at hm
    exact hy₂ y u hm.2 (hy y u hm.1 hu)
theorem xh {M' : Model} {fd : FuncData} (O : j4 fd) {f : Addr} {binds : List (Str × Value)} {s : Shared} {E : Value → Shared → Prop} {Q : Env → Shared → Prop} (hlt : ∀ x c,fd.closure.lookup x = some c → c < s.heap.objs.size)
  (hn : (binds.map (·.1)).Nodup) (hk : ∀ p ∈ binds,zT fd.scope.names p.1 = true)
  (hQ : ∀ h' tk,yu fd.scope.names (zW fd s.heap.objs.size f) h' → (∀ x v,(x,v) ∈ binds → yL (zW fd s.heap.objs.size f) h' x v) → zS s.heap h' → (∀ a,zO fd.scope.names (zW fd s.heap.objs.size f) a → s.heap.objs.size ≤ a) → Q (zW fd s.heap.objs.size f) { s with heap:=h',toks:=tk }) :
  wpAny M' A (newFunctionEnv fd.scope fd.globals fd.closure binds (fd.qualname ++ ".<locals>.") (some f) fd.code none fd.builtins) Q E s:=by
 simp only [newFunctionEnv,Option.isSome_none,false_eq_true,if_false]
 refine wpAny_bind (wpAny_alloc ?_)
 refine wpAny_bind (wpAny_layCells _ (fun name kind cells => by cases hkc : kind == NameKind.cell <;> simp) _ _ _ _ ?_)
 rw [show ({ s with heap:=s.heap.push { cls:=.type "frame",data:=.dict #[] } } : Shared).heap.objs.size = s.heap.objs.size + 1 from Heap.size_push ..]
 have N:=Wm O s.heap.objs.size f hlt
 have hP2 : (s.heap.push { cls:=.type "frame",data:=.dict #[] }).objs.size = s.heap.objs.size + 1:=Heap.size_push ..
 have ok:=qk fd.scope.names (s.heap.push { cls:=.type "frame",data:=.dict #[] })
 rw [hP2] at ok
 have ownc : ∀ x c,(cellsFrom (s.heap.objs.size + 1) fd.scope.names fd.closure).lookup x = some c → fd.scope.names.lookup x = some .cell → (x,c) ∈ cellsFrom (s.heap.objs.size + 1) fd.scope.names []:=by
  intro x c e hx
  rw [zk,lookup_append] at e
  cases q : (cellsFrom (s.heap.objs.size + 1) fd.scope.names []).lookup x with
  | some c' =>
    rw [q] at e
    have e : c' = c:=by simpa using e
    subst e
    exact mem_of_lookup q
  | none =>
    have:=yT fd.scope.names (s.heap.objs.size + 1) [] x (.inl (mem_of_lookup hx))
    rw [q] at this; cases this
 have F₀ : yu fd.scope.names (zW fd s.heap.objs.size f) (pushCells (s.heap.push { cls:=.type "frame",data:=.dict #[] }) fd.scope.names):=by
  refine ⟨⟨_,(Heap.Ns.new s.heap (.type "frame")).keeps (pushCells_keeps _ _)⟩,fun x c hx e => ?_⟩
  exact ⟨_,(ok.empty x c (ownc x c e hx)).1⟩
 have hA : ∀ a,zO fd.scope.names (zW fd s.heap.objs.size f) a → s.heap.objs.size ≤ a:=by
  rintro a (rfl | ⟨x,hx,e⟩)
  · exact le_refl _
  · exact Nat.le_of_succ_le (ok.empty x a (ownc x a e hx)).2
 refine wpAny_bind (Zb (env:=zW fd s.heap.objs.size f) N _ (fun _ _ _ => rfl) binds hn hk _ E _ F₀ fun h' tk F' hb hy hh => wpAny_pure (hQ h' tk F' hb (fun a o e => ?_) hA))
 rw [hh a fun x => absurd (lt_size e) (Nat.not_lt.mpr (hA a x))]
 exact pushCells_keeps _ _ a o (get?_push_of_some _ e)
end
structure St (prog : Program) (w : World) (B : Heap) (s₀ : Shared) (Own₀ M₀ : Addr → Prop) (names : zE) (env : Env) (Own M : Addr → Prop) (ρ : List (Str × RV)) (μ : List (Addr × D)) (s : Shared) : Prop where
 same : ∃ h tk,s = { s₀ with heap:=h,toks:=tk }
 e : En prog w B names env s.heap M ρ μ
 f : yu names env s.heap
 keep : ∀ a o,¬ Own₀ a → s₀.heap.get? a = some o → s.heap.get? a = some o
 own : ∀ a,Own a → M a
 own₀ : ∀ a,Own₀ a → Own a
 fresh : ∀ a,Own a → Own₀ a ∨ s₀.heap.get? a = none
 more : ∀ a,M₀ a → M a
 fr : ∀ a,zO names env a → Own a
 base : ∀ a,Own a → B.get? a = none
 sep : ∀ a d,(a,d) ∈ μ → ¬ zO names env a
 nodup : (μ.map (·.1)).Nodup
variable {prog : Program} {w : World} {A : Around} {B h : Heap} {s₀ s : Shared} {Own₀ M₀ Own M : Addr → Prop} {names : zE} {env : Env} {ρ : List (Str × RV)} {μ : List (Addr × D)} {E : Value → Shared → Prop} {rest : List Stmt} {mg mb : Str → Option Value} {Q : Flow → Shared → Prop} {k : Nat} {C N : Addr} {mN : Str → Option Value} {B' : Heap} {M₁ : Addr → Prop}
theorem St.step {s' : Shared} (S : St prog w B s₀ Own₀ M₀ names env Own M ρ μ s) (k : Keeps s s') : St prog w B s₀ Own₀ M₀ names env Own M ρ μ s':=by
 obtain ⟨h',tk',rfl,kk⟩:=k
 obtain ⟨h,tk,e⟩:=S.same
 exact ⟨⟨h',tk',by rw [e]⟩,S.e.ext kk,S.f.to fun a o _ e => kk a o e,fun a o n e => kk a o (S.keep a o n e),S.own,S.own₀,S.fresh,S.more,S.fr,S.base,S.sep,S.nodup⟩
theorem St.sub {ρ' : List (Str × RV)} (S : St prog w B s₀ Own₀ M₀ names env Own M ρ μ s) (h : ∀ x r,(x,r) ∈ ρ' → (x,r) ∈ ρ) : St prog w B s₀ Own₀ M₀ names env Own M ρ' μ s :=
 { S with e:={ S.e with vars:=fun x r m => S.e.vars x r (h x r m) } }
theorem St.anchor (S : St prog w B s₀ Own₀ M₀ names env Own M ρ μ s) : St prog w B s Own M names env Own M ρ μ s :=
 { S with same:=⟨s.heap,s.toks,rfl⟩,keep:=fun _ _ _ e => e,own₀:=fun _ o => o,fresh:=fun _ o => .inl o,more:=fun _ m => m }
theorem St.back {Own' M' : Addr → Prop} {ρ' : List (Str × RV)} {μ' : List (Addr × D)} {s' : Shared} (S : St prog w B s₀ Own₀ M₀ names env Own M ρ μ s) (T : St prog w B s Own M names env Own' M' ρ' μ' s') :
   St prog w B s₀ Own₀ M₀ names env Own M ρ' μ' s':=by
 obtain ⟨h,tk,e⟩:=S.same
 obtain ⟨h',tk',e'⟩:=T.same
 refine ⟨⟨h',tk',by rw [e',e]⟩,⟨T.e.base,T.e.n,fun a m => T.e.old a (T.more a m),T.e.celled,fun x r m => ?_,fun a d m => ?_⟩,T.f,fun a o n q => T.keep a o (fun x => ?_) (S.keep a o n q),S.own,S.own₀,S.fresh,S.more,S.fr,S.base,T.sep,T.nodup⟩
 · obtain ⟨v,a,b⟩:=T.e.vars x r m
   exact ⟨v,a,b.to fun a o n q => ⟨q,fun x => n (T.more a x)⟩⟩
 · exact (T.e.mem a d m).to (fun o q => q) fun a o n q => ⟨q,fun x => n (T.more a x)⟩
 · rcases S.fresh a x with y | y
   · exact n y
   · rw [q] at y; cases y
noncomputable def YX (x : Str) (ρ : List (Str × RV)) : List (Str × RV):=ρ.filter fun p => p.1 != x
theorem jt {x y : Str} {r : RV} (hm : (y,r) ∈ ρ) (hn : (y != x) = true) : (y,r) ∈ YX x ρ:=mem_filter.mpr ⟨hm,hn⟩
theorem St.written (S : St prog w B s₀ Own₀ M₀ names env Own M ρ μ s) {h' : Heap} {tk : Nat} (F' : yu names env h') (hk : ∀ a o,¬ zO names env a → s.heap.get? a = some o → h'.get? a = some o) {ρ' : List (Str × RV)}
   (hv : ∀ x r,(x,r) ∈ ρ' → ∃ v,yL env h' x v ∧ zt prog w s.heap M v r) : St prog w B s₀ Own₀ M₀ names env Own M ρ' μ { s with heap:=h',toks:=tk }:=by
 have hmv : ∀ a o,¬ M a → s.heap.get? a = some o → h'.get? a = some o ∧ ¬ M a:=fun a o m e => ⟨hk a o (fun x => m (S.own a (S.fr a x))) e,m⟩
 obtain ⟨h,t,e⟩:=S.same
 refine ⟨⟨h',tk,by rw [e]⟩,⟨fun a o q => ?_,S.e.n,fun a m => ?_,fun y c q => ?_,fun y u hm => ?_,fun a d hm => ?_⟩,F',fun a o n q => ?_,S.own,S.own₀,S.fresh,S.more,S.fr,S.base,S.sep,S.nodup⟩
 · refine hk a o (fun z => ?_) (S.e.base a o q)
   rw [S.base a (S.fr a z)] at q; cases q
 · obtain ⟨o,q⟩:=S.e.old a m
   by_cases hz : zO names env a
   · exact F'.has hz
   · exact ⟨o,hk a o hz q⟩
 · obtain ⟨u,q2⟩:=S.e.celled y c q
   by_cases hz : zO names env c
   · rcases hz with rfl | ⟨z,hz,e2⟩
     · obtain ⟨m,n⟩:=S.f.ns
       exact (yi n q2).elim
     · have:=S.e.n.apart _ _ _ e2 q
       subst this
       exact F'.cell z c hz q
   · obtain ⟨o,q3,q4⟩:=q2
     exact ⟨u,o,hk c o hz q3,q4⟩
 · obtain ⟨v,a,b⟩:=hv y u hm
   exact ⟨v,a,b.to hmv⟩
 · exact (S.e.mem a d hm).to (fun o q => hk a o (S.sep a d hm) q) hmv
 · refine hk a o (fun z => ?_) (S.keep a o n q)
   rcases S.fresh a (S.fr a z) with y | y
   · exact n y
   · rw [q] at y; cases y
theorem St.store (S : St prog w B s₀ Own₀ M₀ names env Own M ρ μ s) {x : Str} {v : Value} {r : RV} (hr : zt prog w s.heap M v r) (hx : zT names x = true) {E : Value → Shared → Prop} {Q : Unit → Shared → Prop}
   (hQ : ∀ s',St prog w B s₀ Own₀ M₀ names env Own M ((x,r) :: YX x ρ) μ s' → Q () s') : wpAny (model prog w) A (storeName env x v) Q E s:=by
 refine yO S.e.n S.f (yd hx) fun h' tk F' hv hy hk => hQ _ (S.written F' (fun a o n e => (hk a n).trans e) fun y u hm => ?_)
 rcases mem_cons.mp hm with e2 | hm
 · cases e2
   exact ⟨v,hv,hr⟩
 · have hm2:=mem_filter.mp hm
   obtain ⟨u',hu,hr'⟩:=S.e.vars y u hm2.1
   exact ⟨u',hy y u' (by simpa using hm2.2) hu,hr'⟩
theorem St.assign (S : St prog w B s₀ Own₀ M₀ names env Own M ρ μ s) (hh : A.handled = none) {target : Expr} {d : D} {bs : List (Str × RV)} (G : wu prog w names target d bs) {v : Value} (hr : Rp prog w s.heap M v d) {E : Value → Shared → Prop} {Q : Unit → Shared → Prop}
   (hQ : ∀ s',St prog w B s₀ Own₀ M₀ names env Own M (bs ++ ρ.filter fun p => !(bs.map (·.1)).contains p.1) μ s' → Q () s') : wpAny (model prog w) A (assign target env v) Q E s:=by
 refine G.run A M env s E Q v hh S.e.n S.f hr fun h' tk F' hb hy hk => hQ _ (S.written F' hk fun y u hm => ?_)
 rcases mem_append.mp hm with hm | hm
 · exact hb y u hm
 · have hm2:=mem_filter.mp hm
   obtain ⟨u',hu,hr'⟩:=S.e.vars y u hm2.1
   refine ⟨u',hy y u' (fun r q => ?_) hu,hr'⟩
   have h2 : (bs.map (·.1)).contains y = true:=List.contains_iff_mem.mpr (mem_map.mpr ⟨(y,r),q,rfl⟩)
   rw [h2] at hm2
   exact absurd hm2.2 (by simp)
theorem St.mut (S : St prog w B s₀ Own₀ M₀ names env Own M ρ μ s) {s' : Shared} (k : Keeps s s') {a : Addr} {d : D} (hn : s.heap.get? a = none) (hc : zd prog w s'.heap (fun b => M b ∨ b = a) a d) :
   St prog w B s₀ Own₀ M₀ names env (fun b => Own b ∨ b = a) (fun b => M b ∨ b = a) ρ ((a,d) :: μ) s':=by
 have S':=S.step k
 have hM : ∀ b o,(M b ∨ b = a) → s.heap.get? b = some o → M b:=fun b o m e => m.elim id fun q => by rw [q,hn] at e; cases e
 have hex:=yR hc
 have more : ∀ {u : Value} {r : RV},zt prog w s.heap M u r → zt prog w s'.heap (fun b => M b ∨ b = a) u r:=fun hr => hr.to fun b o m e => ⟨ke k b o e,fun x => m (hM b o x e)⟩
 refine ⟨S'.same,⟨S'.e.base,S'.e.n,fun b m => m.elim (S'.e.old b) fun q => q ▸ hex,S'.e.celled,fun y u hm => ?_,fun b d' hm => ?_⟩,S'.f,S'.keep,fun b m => m.imp (S.own b) id,fun b m => .inl (S.own₀ b m),fun b m => m.elim (S.fresh b) fun q => ?_,fun b m => .inl (S.more b m),fun b x => .inl (S.fr b x),fun b m => ?_,fun b d' hm => ?_, ?_⟩
 · obtain ⟨v,hv,hr⟩:=S.e.vars y u hm
   exact ⟨v,hv.ext (ke k),more hr⟩
 · rcases mem_cons.mp hm with e2 | hm
   · cases e2; exact hc
   · exact (S.e.mem b d' hm).to (fun o q => ke k b o q) fun b o m e => ⟨ke k b o e,fun x => m (hM b o x e)⟩
 · subst q
   by_cases hz : Own₀ b
   · exact .inl hz
   · refine .inr ?_
     cases e : s₀.heap.get? b with
     | none => rfl
     | some o => rw [S.keep b o hz e] at hn; cases hn
 · rcases m with m | rfl
   · exact S.base b m
   · cases e : B.get? b with
     | none => rfl
     | some o => rw [S.e.base b o e] at hn; cases hn
 · rcases mem_cons.mp hm with e2 | hm
   · cases e2
     intro x
     obtain ⟨o,q⟩:=S.f.has x
     rw [hn] at q; cases q
   · exact S.sep b d' hm
 · rw [map_cons,nodup_cons]
   refine ⟨fun hm => ?_,S.nodup⟩
   obtain ⟨⟨b,d'⟩,hp,e⟩:=mem_map.mp hm
   dsimp only at e
   subst e
   obtain ⟨o,q⟩:=yR (S.e.mem b d' hp)
   rw [hn] at q; cases q
theorem St.widen (S : St prog w B s₀ Own₀ M₀ names env Own M ρ μ s) {s' : Shared} (k : Keeps s s') {M' : Addr → Prop} (hM : ∀ a,M a → M' a) (hn : ∀ a,M' a → M a ∨ (s.heap.get? a = none ∧ ∃ o,s'.heap.get? a = some o)) :
   St prog w B s₀ Own₀ M₀ names env Own M' ρ μ s':=by
 have S':=S.step k
 have hto : ∀ b o,¬ M b → s.heap.get? b = some o → s'.heap.get? b = some o ∧ ¬ M' b:=fun b o m e => ⟨ke k b o e,fun x => (hn b x).elim m fun q => by rw [q.1] at e; cases e⟩
 refine ⟨S'.same,⟨S'.e.base,S'.e.n,fun b m => (hn b m).elim (S'.e.old b) fun q => q.2,S'.e.celled,fun y u hm => ?_,fun b d' hm => ?_⟩,S'.f,S'.keep,fun b m => hM b (S.own b m),S.own₀,S.fresh,fun b m => hM b (S.more b m),S.fr,S.base,S.sep,S.nodup⟩
 · obtain ⟨v,hv,hr⟩:=S.e.vars y u hm
   exact ⟨v,hv.ext (ke k),hr.to hto⟩
 · exact (S.e.mem b d' hm).to (fun o q => ke k b o q) hto
theorem St.turned (S : St prog w B s₀ Own₀ M₀ names env Own M ρ μ s) {wr : List Addr} (hwr : ∀ a ∈ wr,M a ∧ ¬ Own a ∧ s₀.heap.get? a = none ∧ B.get? a = none ∧ (∀ d,(a,d) ∉ μ) ∧ (∀ v,¬ s.heap.IsCell a v)) {h' : Heap} {tk : Nat} (hk : ∀ a o,a ∉ wr → s.heap.get? a = some o → h'.get? a = some o) (hl : ∀ a ∈ wr,∃ o,h'.get? a = some o) :
   St prog w B s₀ Own₀ M₀ names env Own M ρ μ { s with heap:=h',toks:=tk }:=by
 have hto : ∀ b o,¬ M b → s.heap.get? b = some o → h'.get? b = some o ∧ ¬ M b:=fun b o m e => ⟨hk b o (fun x => m (hwr b x).1) e,m⟩
 obtain ⟨h,t,e⟩:=S.same
 refine ⟨⟨h',tk,by rw [e]⟩,⟨fun b o q => hk b o (fun x => by rw [(hwr b x).2.2.2.1] at q; cases q) (S.e.base b o q),S.e.n,fun b m => ?_,fun y c q => ?_,fun y u hm => ?_,fun b d hm => ?_⟩,S.f.to fun b o x q => hk b o (fun y => (hwr b y).2.1 (S.fr b x)) q,fun b o n q => hk b o (fun x => by rw [(hwr b x).2.2.1] at q; cases q) (S.keep b o n q),S.own,S.own₀,S.fresh,S.more,S.fr,S.base,S.sep,S.nodup⟩
 · by_cases hz : b ∈ wr
   · exact hl b hz
   · obtain ⟨o,q⟩:=S.e.old b m; exact ⟨o,hk b o hz q⟩
 · obtain ⟨u,o,q2,q3⟩:=S.e.celled y c q
   exact ⟨u,o,hk c o (fun x => (hwr c x).2.2.2.2.2 u ⟨o,q2,q3⟩) q2,q3⟩
 · obtain ⟨v,hv,hr⟩:=S.e.vars y u hm
   refine ⟨v, ?_,hr.to hto⟩
   rcases hv with ⟨x1,m,n,e1⟩ | ⟨x1,c,e1,q⟩
   · exact .inl ⟨x1,m,n.at' fun o e => hk _ o (fun x => (hwr _ x).2.1 (S.fr _ (.inl rfl))) e,e1⟩
   · obtain ⟨o,q2,q3⟩:=q
     exact .inr ⟨x1,c,e1,o,hk c o (fun x => (hwr c x).2.2.2.2.2 _ ⟨o,q2,q3⟩) q2,q3⟩
 · exact (S.e.mem b d hm).to (fun o q => hk b o (fun x => (hwr b x).2.2.2.2.1 d hm) q) hto
theorem zD (h : Q .next s) : wpAny (model prog w) A (execs [] env) Q E s:=wpAny_execs_nil h
theorem z7 (S : St prog w B s₀ Own₀ M₀ names env Own M ρ μ s) {x : Str} {p pos : Pos} {e : Expr} {d : D} (hv : Ev prog w A s.heap e env (PS prog w M d)) (hx : zT names x = true)
  (hs : swapsWith e (some (.Name x p)) pos.line env = pure false) (k : ∀ s',St prog w B s₀ Own₀ M₀ names env Own M ((x,.dat d) :: YX x ρ) μ s' → wpAny (model prog w) A (execs rest env) Q E s') :
  wpAny (model prog w) A (execs (.Assign [.Name x p] e pos :: rest) env) Q E s :=
 wpAny_execs_cons (wpAny_Assign_Name (hv s E _ (zS.refl _) fun v s₁ k₁ r => (S.step k₁).store (r:=.dat d) r hx fun s' S' => k s' S') hs)
theorem Wg (S : St prog w B s₀ Own₀ M₀ names env Own M ρ μ s) {x : Str} {p pos : Pos} {e : Expr} {r : RV} (hv : Ev prog w A s.heap e env (fun h v => zt prog w h M v r)) (hx : zT names x = true)
  (hs : swapsWith e (some (.Name x p)) pos.line env = pure false) (k : ∀ s',St prog w B s₀ Own₀ M₀ names env Own M ((x,r) :: YX x ρ) μ s' → wpAny (model prog w) A (execs rest env) Q E s') :
  wpAny (model prog w) A (execs (.Assign [.Name x p] e pos :: rest) env) Q E s :=
 wpAny_execs_cons (wpAny_Assign_Name (hv s E _ (zS.refl _) fun v s₁ k₁ r => (S.step k₁).store r hx fun s' S' => k s' S') hs)
theorem QZ (S : St prog w B s₀ Own₀ M₀ names env Own M ρ μ s) {x : Str} {p pos : Pos} {op : Operator} {e : Expr} {d₀ d₁ d : D} (hm : (x,RV.dat d₀) ∈ ρ) (hv : Ev prog w A s.heap e env (PR prog w M d₁)) (hx : zT names x = true)
   (ho : ∀ (s : Shared) (E : Value → Shared → Prop) (Q : Value → Shared → Prop) (a b : Value),Rp prog w s.heap M a d₀ → Rd prog w s.heap M b d₁ → (∀ v s',Keeps s s' → Rp prog w s'.heap M v d → Q v s') → wpAny (model prog w) A (inplaceOp op a b) Q E s)
   (k : ∀ s',St prog w B s₀ Own₀ M₀ names env Own M ((x,.dat d) :: YX x ρ) μ s' → wpAny (model prog w) A (execs rest env) Q E s') :
   wpAny (model prog w) A (execs (.AugAssign (.Name x p) op e pos :: rest) env) Q E s:=by
 refine wpAny_execs_cons (wpAny_AugAssign_Name ?_)
 obtain ⟨u,hu,hr⟩:=S.e.vars x _ hm
 have go : wpAny (model prog w) A (eval e env) (fun v s₂ => wpAny (model prog w) A (inplaceOp op u v) (fun r s₃ => wpAny (model prog w) A (storeName env x r) (fun _ s' => wpAny (model prog w) A (execs rest env) Q E s') E s₃) E s₂) E s:=by
   refine hv s E _ (zS.refl _) fun v s₁ k₁ r => ?_
   refine ho s₁ E _ u v (Rp.ext (ke k₁) hr) r fun z s₂ k₂ rz => ?_
   exact (S.step (zA k₁ k₂)).store (r:=.dat d) rz hx fun s' S' => k s' S'
 rcases hu with ⟨a,m,n,e1⟩ | ⟨a | ⟨a,a2⟩,c,e1,q⟩
 · exact wpAny_loadName_local S.e.n.fn a n e1 go
 · exact wpAny_loadName_cell S.e.n.fn a e1 q go
 · exact wpAny_loadName_free S.e.n.fn a e1 q go a2
theorem WK {x : Str} {p : Pos} {line : Nat} {elt : Expr} {gens : List Comprehension} {scope : Scope} {pos : Pos} (N : vq names env) (hx : zT names x = true) :
 ∃ b,swapsWith (.ListComp elt gens scope pos) (some (.Name x p)) line env = pure b:=⟨_,rfl⟩
theorem Kc {α : Type} {scope : Scope} {elt target iter : Expr} {ifs : List Expr} {cpos : Pos} {dsrc : D}
  (S : St prog w B s₀ Own₀ M₀ names env Own M ρ μ s) {x : Str} {xp pos : Pos} (hx : zT names x = true) (R : Rm A 0) (hc : yQ names scope = true)
  (hsrc : Ev prog w A s.heap iter env (PR prog w M dsrc)) (ys : List α) (g : α → D) (hs : zj dsrc (ys.map g)) (bs : α → List (Str × RV)) (p : α → Bool) (f : α → D)
  (hasg : ∀ y ∈ ys,wu prog w scope.names target (g y) (bs y)) (hapart : ∀ y ∈ ys,∀ x r,(x,r) ∈ bs y → scope.names.lookup x ≠ some .free)
  (hsz : ys.length ≤ sizeLine) (hfs : ∀ x,foldedSetIterable iter env x = pure x)
  (turn : ∀ y ∈ ys,∀ env' h' M',zS s.heap h' → En prog w B scope.names env' h' M' (bs y ++ xa scope.names ρ) μ → xl prog w A h' ifs env' (p y) ∧ (p y = true → Ev prog w A h' elt env' (PS prog w M' (f y))))
  (k : ∀ s',St prog w B s₀ Own₀ M₀ names env Own M ((x,.dat (.list ((ys.filter p).map f))) :: YX x ρ) μ s' → wpAny (model prog w) A (execs rest env) Q E s') :
  wpAny (model prog w) A (execs (.Assign [.Name x xp] (.ListComp elt [⟨target,iter,ifs,0⟩] scope cpos) pos :: rest) env) Q E s:=by
 obtain ⟨b,hb⟩:=WK (p:=xp) (line:=pos.line) (elt:=elt) (gens:=[⟨target,iter,ifs,0⟩]) (scope:=scope) (pos:=cpos) S.e.n hx
 cases b with
 | false => exact z7 S (Ev.compF S.e R hc hsrc ys g hs bs p f hasg hapart hsz hfs turn) hx hb k
 | true =>
  refine wpAny_execs_cons ?_
  rw [exec_Assign_Name_used _ _ _ _ hb]
  refine wpAny_bind (wpAny_standAt (wpAny_bind ?_))
  show wpAny _ A (do let _ ← comprehension (.ListComp elt [⟨target,iter,ifs,0⟩] scope cpos) scope env _ (newList []) false (eval iter env) (some (assign (.Name x xp) env))) _ _ s
  refine wpAny_bind (wpAny_mono (Q:=fun _ s' => wpAny (model prog w) A (execs rest env) Q E s') (Zj S.e R hc hsrc ys g hs bs p f hasg hapart turn hsz hfs (use:=some (assign (.Name x xp) env)) (zS.refl _) ?_) (fun _ _ q => wpAny_pure (wpAny_pure q)) fun _ _ e => e)
  rintro acc C s' ks hC ⟨m,n⟩ r
  show wpAny _ A (assign (.Name x xp) env acc) _ E s'
  have S':=S.step ks
  refine wpAny_assign_Name (yO S'.e.n S'.f (yd hx) fun h₂ tk₂ F₂ hv hy hk => ?_)
  have hCn : ¬ zO names env C:=fun z => by obtain ⟨o,e⟩:=S.f.has z; rw [hC] at e; cases e
  refine ⟨m,n.at' fun o e => (hk C hCn).trans e,fun h₃ sb => k _ ?_⟩
  -- the state behind
  have hkk : ∀ a o,¬ zO names env a → s.heap.get? a = some o → h₃.get? a = some o:=fun a o z e => sb.extBut a o (fun q => by rw [q,hC] at e; cases e) ((hk a z).trans (ke ks a o e))
  obtain ⟨h',tk',rfl,kk⟩:=ks
  have F₃ : yu names env h₃:=F₂.to fun a o z e => sb.extBut a o (fun q => hCn (q ▸ z)) e
  -- written from s' to h₃,but C: go by the heap behind the comprehension
  have W : St prog w B s₀ Own₀ M₀ names env Own M [] μ { s with heap:=h₃,toks:=tk₂ }:=(S.sub (ρ':=[]) (by intro _ _ q; cases q)).written F₃ hkk (by intro _ _ q; cases q)
  have hmv : ∀ a o,¬ (M a ∨ a = C) → h'.get? a = some o → h₃.get? a = some o ∧ ¬ M a:=fun a o q e => ⟨sb.extBut a o (fun z => q (.inr z)) ((hk a fun z => q (.inl (S.own a (S.fr a z)))).trans e),fun z => q (.inl z)⟩
  refine { W with e:={ W.e with vars:=fun y u hm => ?_ } }
  rcases mem_cons.mp hm with e2 | hm
  · cases e2
    refine ⟨acc, ?_,r.to hmv⟩
    rcases hv with ⟨a,m2,n2,e2⟩ | ⟨a,c,e2,q⟩
    · exact .inl ⟨a,m2,n2.sameBut sb fun z => hCn (.inl z.symm),e2⟩
    · refine .inr ⟨a,c,e2,q.sameBut sb fun z => ?_⟩
      subst z
      obtain ⟨v,o,q2,_⟩:=S.e.celled _ _ e2
      rw [hC] at q2; cases q2
  · have hm2:=mem_filter.mp hm
    obtain ⟨u',hu,hr'⟩:=S.e.vars y u hm2.1
    have hu':=hy y u' (by simpa using hm2.2) (hu.ext kk)
    refine ⟨u', ?_,hr'.to fun a o q e => ⟨hkk a o (fun z => q (S.own a (S.fr a z))) e,q⟩⟩
    rcases hu' with ⟨a,m2,n2,e2⟩ | ⟨a,c,e2,q⟩
    · exact .inl ⟨a,m2,n2.sameBut sb fun z => hCn (.inl z.symm),e2⟩
    · refine .inr ⟨a,c,e2,q.sameBut sb fun z => ?_⟩
      subst z
      obtain ⟨v,o,q2,_⟩:=S.e.celled _ _ e2
      rw [hC] at q2; cases q2
theorem xn {t : Expr} {body orelse : List Stmt} {pos : Pos} {b : Bool} (S : St prog w B s₀ Own₀ M₀ names env Own M ρ μ s) (ht : Tv prog w A s.heap t env b)
  (k : ∀ s',St prog w B s₀ Own₀ M₀ names env Own M ρ μ s' → wpAny (model prog w) A (execs (if b then body else orelse) env) (fun f s₂ => match f with | .next => wpAny (model prog w) A (execs rest env) Q E s₂ | f => Q f s₂) E s') :
  wpAny (model prog w) A (execs (.If t body orelse pos :: rest) env) Q E s:=by
 refine wpAny_execs_cons (wpAny_If (ht s E _ (zS.refl _) fun s₁ k₁ => ?_))
 have:=k s₁ (S.step k₁)
 cases b <;> exact this
theorem wb {t : Expr} {body : List Stmt} {pos : Pos} (S : St prog w B s₀ Own₀ M₀ names env Own M ρ μ s) (ht : Tv prog w A s.heap t env false)
  (k : ∀ s',St prog w B s₀ Own₀ M₀ names env Own M ρ μ s' → wpAny (model prog w) A (execs rest env) Q E s') : wpAny (model prog w) A (execs (.If t body [] pos :: rest) env) Q E s :=
 xn (b:=false) S ht fun s' S' => zD (k s' S')
theorem xO {e : Expr} {pos : Pos} {d : D} (S : St prog w B s₀ Own₀ M₀ names env Own M ρ μ s) (hv : Ev prog w A s.heap e env (PS prog w M d))
  (k : ∀ v s',St prog w B s₀ Own₀ M₀ names env Own M ρ μ s' → Rp prog w s'.heap M v d → Q (.ret v) s') : wpAny (model prog w) A (execs (.Return (some e) pos :: rest) env) Q E s :=
 wpAny_execs_cons (wpAny_Return_some (hv s E _ (zS.refl _) fun v s₁ k₁ r => k v s₁ (S.step k₁) r))
noncomputable def Je (prog : Program) (w : World) (B : Heap) (s₁ : Shared) (names : zE) (env : Env) (Own M' : Addr → Prop) {σ : Type} (ρ' : σ → List (Str × RV)) (μ' : σ → List (Addr × D)) (P : σ → Prop) (PB : Flow → σ → Heap → Prop) (f : Flow) (s₂ : Shared) : Prop :=
 ∃ c Own' M'',St prog w B s₁ Own M' names env Own' M'' (ρ' c) (μ' c) s₂ ∧ (match f with | .next | .cont => P c | f => PB f c s₂.heap)
theorem St.ended {M' : Addr → Prop} {s₁ : Shared} {ρ' : List (Str × RV)} {μ' : List (Addr × D)} {ρ₁ : List (Str × RV)} {μ₁ : List (Addr × D)} (S : St prog w B s₀ Own₀ M₀ names env Own M ρ₁ μ₁ s₁) (T : St prog w B s₁ Own M names env Own M' ρ' μ' s) {wr : List Addr} (hwr : ∀ a ∈ wr,M' a ∧ ¬ M a ∧ ¬ Own a ∧ s₁.heap.get? a = none ∧ B.get? a = none ∧ (∀ d,(a,d) ∉ μ') ∧ (∀ v,¬ s.heap.IsCell a v))
   {h' : Heap} {tk : Nat} (hk : ∀ a o,a ∉ wr → s.heap.get? a = some o → h'.get? a = some o) :
   St prog w B s₀ Own₀ M₀ names env Own M ρ' μ' { s with heap:=h',toks:=tk }:=by
 have S':=S.back T
 have hto : ∀ b o,¬ M' b → s.heap.get? b = some o → h'.get? b = some o ∧ ¬ M b:=fun b o m e => ⟨hk b o (fun x => m (hwr b x).1) e,fun x => m (T.more b x)⟩
 obtain ⟨h,t,e⟩:=S'.same
 refine ⟨⟨h',tk,by rw [e]⟩,⟨fun b o q => hk b o (fun x => by rw [(hwr b x).2.2.2.2.1] at q; cases q) (S'.e.base b o q),S'.e.n,fun b m => ?_,fun y c q => ?_,fun y u hm => ?_,fun b d hm => ?_⟩,S'.f.to fun b o x q => hk b o (fun y => (hwr b y).2.2.1 (S'.fr b x)) q,fun b o n q => hk b o (fun x => ?_) (S'.keep b o n q),S'.own,S'.own₀,S'.fresh,S'.more,S'.fr,S'.base,S'.sep,S'.nodup⟩
 · obtain ⟨o,q⟩:=S'.e.old b m; exact ⟨o,hk b o (fun x => (hwr b x).2.1 m) q⟩
 · obtain ⟨u,o,q2,q3⟩:=S'.e.celled y c q
   exact ⟨u,o,hk c o (fun x => (hwr c x).2.2.2.2.2.2 u ⟨o,q2,q3⟩) q2,q3⟩
 · obtain ⟨v,hv,hr⟩:=T.e.vars y u hm
   refine ⟨v, ?_,hr.to hto⟩
   rcases hv with ⟨x1,m,n,e1⟩ | ⟨x1,c,e1,q⟩
   · exact .inl ⟨x1,m,n.at' fun o e => hk _ o (fun x => (hwr _ x).2.2.1 (S'.fr _ (.inl rfl))) e,e1⟩
   · obtain ⟨o,q2,q3⟩:=q
     exact .inr ⟨x1,c,e1,o,hk c o (fun x => (hwr c x).2.2.2.2.2.2 _ ⟨o,q2,q3⟩) q2,q3⟩
 · exact (T.e.mem b d hm).to (fun o q => hk b o (fun x => (hwr b x).2.2.2.2.2.1 d hm) q) hto
 · have:=S.keep b o n q
   rw [(hwr b x).2.2.2.1] at this; cases this
theorem Z5 {h : Heap} {a : Addr} {d : D} {o : Obj} (c : zd prog w h M a d) (e : h.get? a = some o) (n : x8 o) : False:=by
 obtain ⟨⟨fs,hfs⟩,nm,hcl,_,hcn⟩:=n
 cases c with
 | list p _ => obtain ⟨n,p⟩:=p; rw [e] at p; cases p; cases hfs
 | dct p _ _ _ => obtain ⟨o2,_,_,p,_,p2,_⟩:=p; rw [e] at p; cases p; rw [hfs] at p2; cases p2
 | tab p _ => rw [e] at p; cases p; cases hcl
 | itr p => rw [e] at p; cases p; cases hcl; exact hcn rfl
theorem Z4 {h : Heap} {a : Addr} {v : Option Value} {o : Obj} (q : h.IsCell a v) (e : h.get? a = some o) (n : x8 o) : False:=by
 obtain ⟨⟨fs,hfs⟩,_⟩:=n
 obtain ⟨o2,p,p2⟩:=q
 rw [e] at p; cases p; rw [hfs] at p2; cases p2
theorem xP {α σ : Type} {target iter : Expr} {body orelse : List Stmt} {pos : Pos} {dsrc : D} (S : St prog w B s₀ Own₀ M₀ names env Own M ρ μ s) (R : Rm A 0)
   (hv : Ev prog w A s.heap iter env (PS prog w M dsrc)) (ys : List α) (g : α → D) (hs : zj dsrc (ys.map g)) (bs : α → List (Str × RV)) (hasg : ∀ y ∈ ys,wu prog w names target (g y) (bs y)) (hfs : ∀ x,foldedSetIterable iter env x = pure x)
   (ρ' : σ → List (Str × RV)) (μ' : σ → List (Addr × D)) (P : Nat → σ → Prop) (PB : Flow → σ → Heap → Prop) (c₀ : σ) (hp : P 0 c₀) (hρ : ∀ x r,(x,r) ∈ ρ' c₀ → (x,r) ∈ ρ) (hμ : μ' c₀ = μ)
   (hoff : ∀ c y,((ρ' c).all fun p => !((bs y).map (·.1)).contains p.1) = true)
   (turn : ∀ i y c M' s₁,ys[i]? = some y → P i c → (∀ a,M a → M' a) → St prog w B s₁ Own M' names env Own M' (bs y ++ ρ' c) (μ' c) s₁ →
    wpAny (model prog w) A (execs body env) (Je prog w B s₁ names env Own M' ρ' μ' (P (i + 1)) PB) (fun _ _ => False) s₁)
   (done : ∀ c s',P ys.length c → St prog w B s₀ Own₀ M₀ names env Own M (ρ' c) (μ' c) s' → wpAny (model prog w) A (execs orelse env) (fun f s₂ => match f with | .next => wpAny (model prog w) A (execs rest env) Q E s₂ | f => Q f s₂) (fun _ _ => False) s')
   (exit : ∀ f c s',PB f c s'.heap → St prog w B s₀ Own₀ M₀ names env Own M (ρ' c) (μ' c) s' → match f with | .brk => wpAny (model prog w) A (execs rest env) Q E s' | .ret v => Q (.ret v) s' | _ => True) :
   wpAny (model prog w) A (execs (.For target iter body orelse pos :: rest) env) Q E s:=by
 refine wpAny_execs_cons (wpAny_For (hv s E _ (zS.refl _) fun xv s₁ k₁ rx => ?_) hfs)
 have S₁:=S.step k₁
 refine qS R.hh hs (M:=M) (.inl rx) fun I fp wr Pi Si s₂ src stay k₂ => ?_
 have W:=(S₁.anchor.sub hρ).widen k₂ (M':=fun a => M a ∨ a ∈ wr) (fun a m => .inl m) (fun a m => m.imp id fun q => ⟨src.fresh a q,src.live 0 _ src.st a q⟩)
 have hwr : ∀ a ∈ wr,¬ M a:=fun a q m => by obtain ⟨o,e⟩:=S₁.e.old a m; rw [src.fresh a q] at e; cases e
 have hfpO : ∀ b ∈ fp,¬ Own b:=fun b hb o => (stay b hb).elim (fun x => hwr b x (S.own b o)) fun e => Rp.ref_not (e ▸ rx) (S.own b o)
 have hlen : (ys.map g).length = ys.length:=length_map ..
 refine codeAny_forLoop_any (fun k s' => ∃ i c,k = ys.length + 1 - i ∧ i ≤ ys.length ∧ P i c ∧ Si i s'.heap ∧ St prog w B s₁ Own M names env Own (fun a => M a ∨ a ∈ wr) (ρ' c) (μ' c) s') ?_ (ys.length + 1)
   ⟨0,c₀,rfl,zero_le _,hp,src.st,by rw [hμ]; exact W⟩
 rintro k s' ⟨i,c,rfl,hi,hP,hSi,T⟩
 have hoffs : ∀ a ∈ wr,(M a ∨ a ∈ wr) ∧ ¬ Own a ∧ s₁.heap.get? a = none ∧ B.get? a = none ∧ (∀ d,(a,d) ∉ μ' c) ∧ (∀ v,¬ s'.heap.IsCell a v):=by
   intro a q
   have ea:=src.one a q
   obtain ⟨oI,hoI,hnI⟩:=src.own i _ hSi
   rw [← ea] at hoI
   refine ⟨.inr q,fun o => hwr a q (S.own a o),src.fresh a q, ?_,fun d m => Z5 (T.e.mem a d m) hoI hnI,fun v z => Z4 z hoI hnI⟩
   cases e : B.get? a with
   | none => rfl
   | some o => have:=S₁.e.base a o e; rw [src.fresh a q] at this; cases this
 by_cases hlt : i < ys.length
 · refine src.W.item i _ _ _ (by rw [hlen]; exact hlt) hSi fun v h₁ tk₁ hPv hst₁ hk₁ => ?_
   obtain ⟨d,hd,rd⟩:=src.item i v hPv
   have hy : ys[i]? = some ys[i]:=by simp [hlt]
   have hmy : ys[i] ∈ ys:=getElem_mem hlt
   have hd' : d = g ys[i]:=by rw [getElem?_map,hy] at hd; simpa using hd.symm
   subst hd'
   have T₁:=T.turned (tk:=tk₁) hoffs (fun a o n e => hk₁ a o n e) (src.live _ _ hst₁)
   obtain ⟨oI,hoI,hnI⟩:=src.own _ _ hst₁
   refine vI (o:=oI) hoI hnI ?_
   have rd₁ : Rp prog w h₁ (fun a => M a ∨ a ∈ wr) v (g ys[i]):=by
    refine rd.to fun a o m e => ⟨?_,fun x => ?_⟩
    · have hn : a ∉ wr:=fun x => by rw [src.fresh a x] at e; cases e
      exact hk₁ a o hn (T.keep a o (fun x => m (S.own a x)) e)
    · rcases x with x | x
      · exact m x
      · rw [src.fresh a x] at e; cases e
   refine T₁.anchor.assign R.hh (hasg _ hmy) rd₁ fun s₃ T₃ => ?_
   have e3 : (ρ' c).filter (fun p => !((bs ys[i]).map (·.1)).contains p.1) = ρ' c:=List.filter_eq_self.mpr (all_eq_true.mp (hoff c ys[i]))
   rw [e3] at T₃
   have st₃ : Si i s'.heap → Si (i + 1) s₃.heap:=fun _ => src.W.frame _ _ _ hst₁ fun b hb o e => T₃.keep b o (hfpO b hb) e
   refine wpAny_mono (turn i ys[i] c _ s₃ hy hP (fun a m => .inl m) T₃.anchor) (fun f s₄ hf => ?_) fun _ _ x => x.elim
   obtain ⟨c',Own',M'',T₄,hc'⟩:=hf
   have T₅:=T₁.back (T₃.back T₄)
   have st₅ : Si (i + 1) s₄.heap:=src.W.frame _ _ _ (st₃ hSi) fun b hb o e => T₄.keep b o (hfpO b hb) e
   have T₆ : St prog w B s₀ Own₀ M₀ names env Own M (ρ' c') (μ' c') s₄:=S₁.back T₅
   cases f with
   | next => exact ⟨ys.length + 1 - (i + 1),Nat.sub_lt_sub_left (lt_succ_of_lt hlt) (lt_succ_self i),i + 1,c',rfl,hlt,hc',st₅,T₅⟩
   | cont => exact ⟨ys.length + 1 - (i + 1),Nat.sub_lt_sub_left (lt_succ_of_lt hlt) (lt_succ_self i),i + 1,c',rfl,hlt,hc',st₅,T₅⟩
   | brk => exact exit .brk c' s₄ hc' T₆
   | ret v => exact exit (.ret v) c' s₄ hc' T₆
 · have hin : i = ys.length:=le_antisymm hi (Nat.not_lt.mp hlt)
   subst hin
   refine src.W.done _ _ _ (by rw [hlen]; exact hSi) fun h₁ tk₁ hk₁ => ?_
   refine wpAny_mono (done c _ hP (S₁.ended T (wr:=wr) (fun a q => ⟨(hoffs a q).1,hwr a q,(hoffs a q).2⟩) fun a o n e => hk₁ a o n e)) (fun f s₂ hf => ?_) fun _ _ x => x.elim
   cases f <;> exact hf
theorem XF {σ : Type} {test : Expr} {body : List Stmt} {pos : Pos} (S : St prog w B s₀ Own₀ M₀ names env Own M ρ μ s) (R : Rm A 0)
  (ρ' : σ → List (Str × RV)) (μ' : σ → List (Addr × D)) (P : σ → Prop) (m : σ → Nat) (t : σ → Bool) (PB : Flow → σ → Heap → Prop) (c₀ : σ) (hp : P c₀) (hρ : ∀ x r,(x,r) ∈ ρ' c₀ → (x,r) ∈ ρ) (hμ : μ' c₀ = μ)
  (htest : ∀ c s₁,P c → St prog w B s₁ Own M names env Own M (ρ' c) (μ' c) s₁ → Tv prog w A s₁.heap test env (t c))
  (turn : ∀ c s₁,P c → t c = true → St prog w B s₁ Own M names env Own M (ρ' c) (μ' c) s₁ →
   wpAny (model prog w) A (execs body env) (Je prog w B s₁ names env Own M ρ' μ' (fun c' => P c' ∧ m c' < m c) PB) (fun _ _ => False) s₁)
  (done : ∀ c s',P c → t c = false → St prog w B s₀ Own₀ M₀ names env Own M (ρ' c) (μ' c) s' → wpAny (model prog w) A (execs rest env) Q E s')
  (exit : ∀ f c s',PB f c s'.heap → St prog w B s₀ Own₀ M₀ names env Own M (ρ' c) (μ' c) s' → match f with | .brk => wpAny (model prog w) A (execs rest env) Q E s' | .ret v => Q (.ret v) s' | _ => True) :
  wpAny (model prog w) A (execs (.While test body [] pos :: rest) env) Q E s:=by
 refine wpAny_execs_cons (wpAny_While ?_)
 refine codeAny_whileLoop (fun k s' => ∃ c,m c = k ∧ P c ∧ St prog w B s₀ Own₀ M₀ names env Own M (ρ' c) (μ' c) s') ?_ (m c₀) ⟨c₀,rfl,hp,by rw [hμ]; exact S.sub hρ⟩
 rintro k s' ⟨c,rfl,hP,T⟩
 refine htest c s' hP T.anchor s' _ _ (zS.refl _) fun s₂ k₂ => ?_
 have T₂:=T.step k₂
 cases ht : t c with
 | false =>
  simp only [false_eq_true,if_false]
  exact wpAny_execs_nil (done c s₂ hP ht T₂)
 | true =>
  simp only [if_true]
  refine wpAny_mono (turn c s₂ hP ht T₂.anchor) (fun f s₄ hf => ?_) fun _ _ x => x.elim
  obtain ⟨c',Own',M'',T₄,hc'⟩:=hf
  have T₅:=T₂.back T₄
  cases f with
  | next => exact ⟨m c',hc'.2,c',rfl,hc'.1,T₅⟩
  | cont => exact ⟨m c',hc'.2,c',rfl,hc'.1,T₅⟩
  | brk => exact exit .brk c' s₄ hc' T₅
  | ret v => exact exit (.ret v) c' s₄ hc' T₅
theorem zA2 {fd : FuncData} {f : Addr} {binds : List (Str × Value)} (O : j4 fd) (base : zS B s.heap) (hold : ∀ a,M₀ a → ∃ o,s.heap.get? a = some o) (hown : ∀ a,Own₀ a → M₀ a ∧ B.get? a = none) (hclo : ∀ x c,fd.closure.lookup x = some c → ∃ v,s.heap.IsCell c v)
   (ρ₀ : List (Str × RV)) (hρ : ∀ x r,(x,r) ∈ ρ₀ → (∃ v,(x,v) ∈ binds ∧ zt prog w s.heap M₀ v r) ∨ (fd.scope.names.lookup x = some .free ∧ (x == ("__classdict__" : Str)) = false ∧ ∃ c v,fd.closure.lookup x = some c ∧ s.heap.IsCell c (some v) ∧ zt prog w s.heap M₀ v r))
   (μ₀ : List (Addr × D)) (hμ : ∀ a d,(a,d) ∈ μ₀ → zd prog w s.heap M₀ a d) (hnd : (μ₀.map (·.1)).Nodup) {h' : Heap} {tk : Nat} (F : yu fd.scope.names (zW fd s.heap.objs.size f) h') (hb : ∀ x v,(x,v) ∈ binds → yL (zW fd s.heap.objs.size f) h' x v) (kx : zS s.heap h') (fresh : ∀ a,zO fd.scope.names (zW fd s.heap.objs.size f) a → s.heap.get? a = none) :
   St prog w B s Own₀ M₀ fd.scope.names (zW fd s.heap.objs.size f) (fun a => Own₀ a ∨ zO fd.scope.names (zW fd s.heap.objs.size f) a) (fun a => M₀ a ∨ zO fd.scope.names (zW fd s.heap.objs.size f) a) ρ₀ μ₀ { s with heap:=h',toks:=tk }:=by
 have N:=Wm O s.heap.objs.size f (fun x c e => by obtain ⟨v,o,q,_⟩:=hclo x c e; exact lt_size q)
 have hto : ∀ a o,¬ M₀ a → s.heap.get? a = some o → h'.get? a = some o ∧ ¬ (M₀ a ∨ zO fd.scope.names (zW fd s.heap.objs.size f) a):=fun a o m e => ⟨kx a o e,fun x => x.elim m fun z => by rw [fresh a z] at e; cases e⟩
 refine ⟨⟨h',tk,rfl⟩,⟨base.trans kx,N,fun a m => ?_,fun x c e => ?_,fun x r hm => ?_,fun a d hm => (hμ a d hm).to (fun o e => kx a o e) hto⟩,F,fun a o _ e => kx a o e,fun a z => z.imp (fun q => (hown a q).1) id,fun a z => .inl z,fun a z => z.imp id (fresh a),fun a m => .inl m,fun a z => .inr z,fun a z => ?_,fun a d hm z => ?_,hnd⟩
 · rcases m with m | m
   · obtain ⟨o,e⟩:=hold a m; exact ⟨o,kx a o e⟩
   · exact F.has m
 · have e : (cellsFrom (s.heap.objs.size + 1) fd.scope.names fd.closure).lookup x = some c:=e
   by_cases hx : fd.scope.names.lookup x = some .cell
   · exact F.cell x c hx e
   · rw [zk,lookup_append] at e
     cases q : (cellsFrom (s.heap.objs.size + 1) fd.scope.names []).lookup x with
     | some c' =>
      exfalso
      rcases yH _ _ _ _ _ (mem_of_lookup q) with h | h
      · exact hx (O.cell x h)
      · cases h
     | none =>
      rw [q] at e
      have e : fd.closure.lookup x = some c:=by simpa using e
      obtain ⟨v,q⟩:=hclo x c e
      exact ⟨v,q.keeps kx⟩
 · rcases hρ x r hm with ⟨v,hv,hr⟩ | ⟨hx,hcd,c,v,e,q,hr⟩
   · exact ⟨v,hb x v hv,hr.to hto⟩
   · refine ⟨v,.inr ⟨.inr ⟨hx,hcd⟩,c, ?_,q.keeps kx⟩,hr.to hto⟩
     show (cellsFrom (s.heap.objs.size + 1) fd.scope.names fd.closure).lookup x = some c
     rw [zk,lookup_append]
     cases q2 : (cellsFrom (s.heap.objs.size + 1) fd.scope.names []).lookup x with
     | some c' =>
      exfalso
      rcases yH _ _ _ _ _ (mem_of_lookup q2) with h | h
      · rw [O.cell x h] at hx; cases hx
      · cases h
     | none => simpa using e
 · rcases z with z | z
   · exact (hown a z).2
   · cases e : B.get? a with
     | none => rfl
     | some o => have:=base a o e; rw [fresh a z] at this; cases this
 · obtain ⟨o,e⟩:=yR (hμ a d hm)
   rw [fresh a z] at e; cases e
theorem jV {fd : FuncData} {f : Addr} {o : Obj} {body : List Stmt} {args : Args} {binds : List (Str × Value)} {k : Nat} {RR : Result → Shared → Prop} (O : j4 fd) (R : Rm A (k + 1)) (ho : s.heap.get? f = some o) (hd : o.data = .func fd)
  (hlim : B.NoLimit) (base : zS B s.heap) (hcd : s.heap.CodeRec fd.code fd.qualname) (hbody : fd.body = .stmts body) (hbind : BindsTo s fd args binds) (hn : (binds.map (·.1)).Nodup) (hk : (binds.all fun p => zT fd.scope.names p.1) = true)
  (hold : ∀ a,M₀ a → ∃ o,s.heap.get? a = some o) (hown : ∀ a,Own₀ a → M₀ a ∧ B.get? a = none) (hclo : ∀ x c,fd.closure.lookup x = some c → ∃ v,s.heap.IsCell c v)
  (ρ₀ : List (Str × RV)) (hρ : ∀ x r,(x,r) ∈ ρ₀ → (∃ v,(x,v) ∈ binds ∧ zt prog w s.heap M₀ v r) ∨ (fd.scope.names.lookup x = some .free ∧ (x == ("__classdict__" : Str)) = false ∧ ∃ c v,fd.closure.lookup x = some c ∧ s.heap.IsCell c (some v) ∧ zt prog w s.heap M₀ v r))
  (μ₀ : List (Addr × D)) (hμ : ∀ a d,(a,d) ∈ μ₀ → zd prog w s.heap M₀ a d) (hnd : (μ₀.map (·.1)).Nodup)
  (run : ∀ env Own M s₁,(∃ L,env = zW fd L f) → Rm (A.deeper env) k → (∀ a,Own₀ a → Own a) → (∀ a,M a → M₀ a ∨ s.heap.get? a = none) → St prog w B s Own₀ M₀ fd.scope.names env Own M ρ₀ μ₀ s₁ →
   wpAny (model prog w) (A.deeper env) (execs body env) (fun fl s' => RR (.ok (.ret (match fl with | .ret v => v | _ => .none))) s')
    (fun e s' => wpAny (model prog w) (A.deeper env) (leaving env e) (fun _ s'' => RR (.error e) s'') (fun e' s'' => RR (.error e') s'') s') s₁) :
  codeAny (model prog w) A (.call (.ref f) args) RR s:=by
 refine codeAny_call_function (by have:=R.hd; show A.depth < 1000; omega) ho hd O.co O.gen hbody hcd (hbind _ _ _ _ ?_)
 refine xh O (f:=f) (fun x c e => by obtain ⟨v,o,q,_⟩:=hclo x c e; exact lt_size q) hn (fun p hp => all_eq_true.mp hk p hp) fun h' tk F hb kx hA => ⟨hlim.keeps (base.trans kx),codeAny_func ?_⟩
 have fresh : ∀ a,zO fd.scope.names (zW fd s.heap.objs.size f) a → s.heap.get? a = none:=fun a z => get?_none_of_le (hA a z)
 exact run _ _ _ _ ⟨_,rfl⟩ (R.deeper _) (fun a o => .inl o) (fun a m => m.imp id (fresh a)) (zA2 O base hold hown hclo ρ₀ hρ μ₀ hμ hnd F hb kx fresh)
theorem VG {fd : FuncData} {f : Addr} {o : Obj} {body : List Stmt} {args : Args} {binds : List (Str × Value)} {k : Nat} {RR : Result → Shared → Prop} (O : j4 fd) (R : Rm A (k + 1)) (ho : s.heap.get? f = some o) (hd : o.data = .func fd)
  (hlim : B.NoLimit) (base : zS B s.heap) (hcd : s.heap.CodeRec fd.code fd.qualname) (hbody : fd.body = .stmts body) (hbind : BindsTo s fd args binds) (hn : (binds.map (·.1)).Nodup) (hk : (binds.all fun p => zT fd.scope.names p.1) = true)
  (hold : ∀ a,M₀ a → ∃ o,s.heap.get? a = some o) (hown : ∀ a,Own₀ a → M₀ a ∧ B.get? a = none) (hclo : ∀ x c,fd.closure.lookup x = some c → ∃ v,s.heap.IsCell c v)
  (ρ₀ : List (Str × RV)) (hρ : ∀ x r,(x,r) ∈ ρ₀ → (∃ v,(x,v) ∈ binds ∧ zt prog w s.heap M₀ v r) ∨ (fd.scope.names.lookup x = some .free ∧ (x == ("__classdict__" : Str)) = false ∧ ∃ c v,fd.closure.lookup x = some c ∧ s.heap.IsCell c (some v) ∧ zt prog w s.heap M₀ v r))
  (μ₀ : List (Addr × D)) (hμ : ∀ a d,(a,d) ∈ μ₀ → zd prog w s.heap M₀ a d) (hnd : (μ₀.map (·.1)).Nodup)
  (run : ∀ env Own M s₁,Rm (A.deeper env) k → (∀ a,Own₀ a → Own a) → (∀ a,M a → M₀ a ∨ s.heap.get? a = none) → St prog w B s Own₀ M₀ fd.scope.names env Own M ρ₀ μ₀ s₁ →
   wpAny (model prog w) (A.deeper env) (execs body env) (fun fl s' => RR (.ok (.ret (match fl with | .ret v => v | _ => .none))) s')
    (fun e s' => wpAny (model prog w) (A.deeper env) (leaving env e) (fun _ s'' => RR (.error e) s'') (fun e' s'' => RR (.error e') s'') s') s₁) :
  codeAny (model prog w) A (.call (.ref f) args) RR s :=
 jV O R ho hd hlim base hcd hbody hbind hn hk hold hown hclo ρ₀ hρ μ₀ hμ hnd fun env Own M s₁ _ => run env Own M s₁
theorem zAU {fd : FuncData} {f : Addr} {o : Obj} {body : Expr} {args : Args} {binds : List (Str × Value)} {k : Nat} {RR : Result → Shared → Prop} (O : j4 fd) (R : Rm A (k + 1)) (ho : s.heap.get? f = some o) (hd : o.data = .func fd)
  (hlim : B.NoLimit) (base : zS B s.heap) (hcd : s.heap.CodeRec fd.code fd.qualname) (hbody : fd.body = .expr body) (hbind : BindsTo s fd args binds) (hn : (binds.map (·.1)).Nodup) (hk : (binds.all fun p => zT fd.scope.names p.1) = true)
  (hold : ∀ a,M₀ a → ∃ o,s.heap.get? a = some o) (hown : ∀ a,Own₀ a → M₀ a ∧ B.get? a = none) (hclo : ∀ x c,fd.closure.lookup x = some c → ∃ v,s.heap.IsCell c v)
  (ρ₀ : List (Str × RV)) (hρ : ∀ x r,(x,r) ∈ ρ₀ → (∃ v,(x,v) ∈ binds ∧ zt prog w s.heap M₀ v r) ∨ (fd.scope.names.lookup x = some .free ∧ (x == ("__classdict__" : Str)) = false ∧ ∃ c v,fd.closure.lookup x = some c ∧ s.heap.IsCell c (some v) ∧ zt prog w s.heap M₀ v r))
  (μ₀ : List (Addr × D)) (hμ : ∀ a d,(a,d) ∈ μ₀ → zd prog w s.heap M₀ a d) (hnd : (μ₀.map (·.1)).Nodup)
  (run : ∀ env Own M s₁,(∃ L,env = zW fd L f) → Rm (A.deeper env) k → (∀ a,Own₀ a → Own a) → (∀ a,M a → M₀ a ∨ s.heap.get? a = none) → St prog w B s Own₀ M₀ fd.scope.names env Own M ρ₀ μ₀ s₁ →
   wpAny (model prog w) (A.deeper env) (eval body env) (fun v s' => RR (.ok (.ret v)) s')
    (fun e s' => wpAny (model prog w) (A.deeper env) (leaving env e) (fun _ s'' => RR (.error e) s'') (fun e' s'' => RR (.error e') s'') s') s₁) :
  codeAny (model prog w) A (.call (.ref f) args) RR s:=by
 refine kla_callFunE (by have:=R.hd; show A.depth < 1000; omega) ho hd O.co O.gen hbody hcd (hbind _ _ _ _ ?_)
 refine xh O (f:=f) (fun x c e => by obtain ⟨v,o,q,_⟩:=hclo x c e; exact lt_size q) hn (fun p hp => all_eq_true.mp hk p hp) fun h' tk F hb kx hA => ⟨hlim.keeps (base.trans kx),kla_codeExpr ?_⟩
 have fresh : ∀ a,zO fd.scope.names (zW fd s.heap.objs.size f) a → s.heap.get? a = none:=fun a z => get?_none_of_le (hA a z)
 exact run _ _ _ _ ⟨_,rfl⟩ (R.deeper _) (fun a o => .inl o) (fun a m => m.imp id (fresh a)) (zA2 O base hold hown hclo ρ₀ hρ μ₀ hμ hnd F hb kx fresh)
theorem xK.one_inv {vs : List Value} {d : D} (r : xK prog w h M vs [d]) : ∃ v,vs = [v] ∧ Rd prog w h M v d:=by
 cases r with | cons x r => cases r; exact ⟨_,rfl,x⟩
theorem xK.two_inv {vs : List Value} {d e : D} (r : xK prog w h M vs [d,e]) : ∃ v u,vs = [v,u] ∧ Rd prog w h M v d ∧ Rd prog w h M u e:=by
 cases r with | cons x r => obtain ⟨u,rfl,y⟩:=r.one_inv; exact ⟨_,_,rfl,x,y⟩
theorem xK.three_inv {vs : List Value} {d e f : D} (r : xK prog w h M vs [d,e,f]) : ∃ v u z,vs = [v,u,z] ∧ Rd prog w h M v d ∧ Rd prog w h M u e ∧ Rd prog w h M z f:=by
 cases r with | cons x r => obtain ⟨u,z,rfl,y,q⟩:=r.two_inv; exact ⟨_,_,_,rfl,x,y,q⟩
theorem zG.range1 (n : Int) : zG prog w k B (.type "range") [.int n] (.rng 0 n 1):=by
 intro A M s E Q vs R X old r₀ hQ
 obtain ⟨v,rfl,r⟩:=r₀.one_inv
 obtain ⟨t,rfl⟩:=r.int_inv
 exact call_range_1 (hQ _ _ (zM s _ _) (.rng (IsRange.new ..) (xY old)))
theorem zG.range3 (a b c : Int) (hc : c ≠ 0) (hp : Builtin.divisionGoesByPylong (b - a) c = false) : zG prog w k B (.type "range") [.int a,.int b,.int c] (.rng a b c):=by
 intro A M s E Q vs R X old r₀ hQ
 obtain ⟨v,u,z,rfl,r,q,q2⟩:=r₀.three_inv
 obtain ⟨t,rfl⟩:=r.int_inv
 obtain ⟨t,rfl⟩:=q.int_inv
 obtain ⟨t,rfl⟩:=q2.int_inv
 exact call_range_3 hc (hQ _ _ (zM s _ _) (.rng (IsRange.new ..) (xY old))) (.inl hp)
theorem zG.lenL (xs : List D) (hx : xs.length ≤ sizeLine) : zG prog w k B (.builtin "len") [.list xs] (.int xs.length):=by
 intro A M s E Q vs R X old r₀ hQ
 obtain ⟨v,rfl,r⟩:=r₀.one_inv
 obtain ⟨a,us,rfl,p,q⟩:=r.list_inv
 have e:=q.length
 refine len_list p.isList (by rw [sizeLine_eq] at hx; simp; omega) ?_
 rw [show (us.toArray.size : Int) = xs.length by simp [e]]
 exact hQ _ _ (zL s _) (.int _ _)
theorem zG.lenS (x : Str) (hx : x.length ≤ sizeLine) : zG prog w k B (.builtin "len") [.str x] (.int x.length):=by
 intro A M s E Q vs R X old r₀ hQ
 obtain ⟨v,rfl,r⟩:=r₀.one_inv
 obtain ⟨t,rfl⟩:=r.str_inv
 exact P.len_str (by rw [sizeLine_eq] at hx; omega) (hQ _ _ (zL s _) (.int _ _))
noncomputable def ZK : D → Int
 | .int i => i
 | .bool b => if b = true then 1 else 0
 | _ => 0
noncomputable def Ws : D → Bool
 | .int _ | .bool _ => true
 | _ => false
theorem ZW (f : Nat → Int) : ∀ n,preSum f n = ((List.range n).map f).sum
 | 0 => rfl
 | n + 1 => by rw [preSum,ZW f n,range_succ,map_append,List.sum_append]; simp
theorem JX (xs : List Int) : ((List.range xs.length).map fun i => xs.getD i 0).sum = xs.sum:=by
 induction xs with
 | nil => rfl
 | cons x xs ih =>
  rw [length_cons,List.range_succ_eq_map,map_cons,map_map,List.sum_cons,List.sum_cons]
  simp only [List.getD_cons_zero]
  rw [← ih]
  rfl
theorem zA8 {v : Value} {d : D} (rd : Rp prog w h M v d) (hn : Ws d = true) : NumOf (ZK d) v:=by
 cases d with
 | int i => obtain ⟨t,rfl⟩:=rd.int_inv; exact .inl ⟨t,rfl⟩
 | bool b => rw [rd.bool_inv]; exact .inr ⟨b,rfl,rfl⟩
 | _ => exact (Bool.false_ne_true hn).elim
theorem zG.sum (xs : List D) (hx : xs.all Ws = true) : zG prog w (k + 1) B (.builtin "sum") [.list xs] (.int (xs.map ZK).sum):=by
 intro A M s E Q vs R X old r₀ hQ
 obtain ⟨v,rfl,r⟩:=r₀.one_inv
 refine call_sum_walkAnyB (qS R.in1.hh (.list xs) r fun I fp wr P St s₂ src stay k₂ => ?_)
 refine ⟨I,fp,wr,_,xs.length,P,_,fun i => (xs.map ZK).getD i 0,rfl,src.W.toS,src.st,src.lo,fun i v hv => ?_,fun s' t' hm => ?_⟩
 · obtain ⟨d,hd,rd⟩:=src.item i v hv
   have hn:=all_eq_true.mp hx d (mem_of_getElem? hd)
   have e : (xs.map ZK).getD i 0 = ZK d:=by simp [getD_eq_getElem?_getD,hd]
   show NumOf ((xs.map ZK).getD i 0) v
   rw [e]
   exact zA8 rd hn
 · have e : preSum (fun i => (xs.map ZK).getD i 0) xs.length = (xs.map ZK).sum:=by
    rw [ZW]
    have:=JX (xs.map ZK)
    rwa [length_map] at this
   rw [e]
   obtain ⟨h₂,tk₂,rfl,kk₂⟩:=k₂
   refine hQ _ s' ⟨s'.heap,s'.toks, ?_,fun a o e => hm.heap a o (fun x => by rw [src.fresh a x] at e; cases e) (kk₂ a o e)⟩ (.int _ _)
   obtain ⟨hh,gg,dd,tt,oo⟩:=s'
   have h1 : gg = _:=hm.gens
   have h2 : dd = _:=hm.drawn
   have h3 : oo = _:=hm.os
   subst h1 h2 h3
   rfl
theorem zx (slice : Expr) (o i : Value) : ∃ ops,subscripted slice false o i = operate ops (getItem o i):=by
 cases slice with
 | Slice _ _ t _ => cases t <;> exact ⟨_,rfl⟩
 | _ => exact ⟨_,rfl⟩
theorem Ev.item {value slice : Expr} {pos : Pos} {xs : List D} {i : Int} {d : D}
  (hv : Ev prog w A h value env (PR prog w M (.list xs))) (hi : Ev prog w A h slice env (PR prog w M (.int i))) (h0 : 0 ≤ i) (h1 : i < 2 ^ 63) (hd : xs[i.toNat]? = some d) :
  Ev prog w A h (.Subscript value slice pos) env (PS prog w M d):=by
 intro s E Q k hQ
 refine Subscript_ (hv s E _ k fun o s₁ k₁ ro => hi s₁ E _ (k.trans (ke k₁)) fun iv s₂ k₂ ri => ?_)
 obtain ⟨t,rfl⟩:=ri.int_inv
 obtain ⟨a,vs,rfl,p,q⟩:=(ro.ext (ke k₂)).list_inv
 obtain ⟨v,hv,rv⟩:=q.get hd
 obtain ⟨ops,hs⟩:=zx slice (.ref a) (.int i t)
 exact tail_any p.isList.typeIs slot_list_getitem.lookup (wpAny_getItem_list p.isList h0 h1 (by simpa using hv) (hQ v s₂ (zA k₁ k₂) rv)) hs
theorem Ev.itemT {value slice : Expr} {pos : Pos} {xs : List D} {i : Int} {j : Nat} {d : D}
  (hv : Ev prog w A h value env (PR prog w M (.tup xs))) (hi : Ev prog w A h slice env (PR prog w M (.int i))) (h0 : -(2 ^ 63) ≤ i) (h1 : i < 2 ^ 63) (hj : seqIndex? i xs.length = some j) (hd : xs[j]? = some d) :
  Ev prog w A h (.Subscript value slice pos) env (PS prog w M d):=by
 intro s E Q k hQ
 refine Subscript_ (hv s E _ k fun o s₁ k₁ ro => hi s₁ E _ (k.trans (ke k₁)) fun iv s₂ k₂ ri => ?_)
 obtain ⟨t,rfl⟩:=ri.int_inv
 obtain ⟨a,vs,rfl,⟨n,p⟩,q⟩:=(ro.ext (ke k₂)).tup_inv
 obtain ⟨v,hv,rv⟩:=q.get hd
 have ht : IsTup s₂.heap a vs.toArray:=⟨_,p,rfl,n,rfl⟩
 obtain ⟨ops,hs⟩:=zx slice (.ref a) (.int i t)
 exact tail_any ht.typeIs slot_tuple_getitem.lookup (getItem_tuple ht h0 h1 (by simpa [q.length] using hj) (by simpa using hv) (hQ v s₂ (zA k₁ k₂) rv)) hs
noncomputable def zY (prog : Program) (w : World) (A : Around) (h : Heap) (M : Addr → Prop) (e : Option Expr) (env : Env) (p : Option Int) : Prop :=
 ∀ (s : Shared) (E : Value → Shared → Prop) (Q : Value → Shared → Prop),zS h s.heap → (∀ v s',Keeps s s' → IsPart v p → Q v s') → wpAny (model prog w) A (evalPart e env) Q E s
theorem zY.none : zY prog w A h M none env none:=fun s E Q k hQ => by rw [evalPart_none]; exact wpAny_pure (hQ _ s (zF s) .none)
theorem zY.some {e : Expr} {i : Int} (x : Ev prog w A h e env (PR prog w M (.int i))) : zY prog w A h M (some e) env (some i):=fun s E Q k hQ => by
 rw [evalPart_some]
 exact x s E Q k fun v s' k' r => by obtain ⟨t,rfl⟩:=r.int_inv; exact hQ _ s' k' (.int _ _)
noncomputable def zf {α : Type} (xs : List α) (lo hi st : Option Int) : List α :=
 (sliceRange (sliceBounds lo hi st xs.length).1 (sliceBounds lo hi st xs.length).2.1 (sliceBounds lo hi st xs.length).2.2).filterMap (xs[·]?)
theorem zH.pick {vs : List Value} {ds : List D} (r : zH prog w h M vs ds) : ∀ is : List Nat,zH prog w h M (is.filterMap (vs[·]?)) (is.filterMap (ds[·]?))
 | [] => .nil
 | i :: is => by
  have ih:=zH.pick r is
  rw [filterMap_cons,filterMap_cons]
  cases e : ds[i]? with
  | none =>
   have : vs[i]? = none:=by
    have:=r.length
    rw [List.getElem?_eq_none_iff] at e ⊢
    omega
   simp only [this]; exact ih
  | some d =>
   obtain ⟨v,hv,rv⟩:=r.get e
   simp only [hv]
   exact .cons rv ih
theorem Ev.slice {B : Heap} {names : zE} {ρ : List (Str × RV)} {μ : List (Addr × D)} (S : En prog w B names env h M ρ μ) {value : Expr} {lower upper step : Option Expr} {p pos : Pos} {xs : List D} {lo hi st : Option Int}
   (hv : Ev prog w A h value env (PR prog w M (.list xs))) (hl : zY prog w A h M lower env lo) (hu : zY prog w A h M upper env hi) (hs : zY prog w A h M step env st) (h0 : st ≠ some 0) (hsz : xs.length ≤ sizeLine) :
   Ev prog w A h (.Subscript value (.Slice lower upper step p) pos) env (PS prog w M (.list (zf xs lo hi st))):=by
 intro s E Q k hQ
 refine Subscript_ (hv s E _ k fun o s₁ k₁ ro => wpAny_Slice ?_)
 refine hl s₁ E _ (k.trans (ke k₁)) fun vl s₂ k₂ pl => ?_
 refine hu s₂ E _ (k.trans ((ke k₁).trans (ke k₂))) fun vu s₃ k₃ pu => ?_
 refine hs s₃ E _ (k.trans ((ke k₁).trans ((ke k₂).trans (ke k₃)))) fun vst s₄ k₄ pst => ?_
 obtain ⟨a,vs,rfl,pl',q⟩:=(((ro.ext (ke k₂)).ext (ke k₃)).ext (ke k₄)).list_inv
 have kk:=zA k₁ (zA k₂ (zA k₃ k₄))
 have pl2 : (s₄.heap.push { cls:=.type "slice",data:=.fields #[vl,vu,vst] }).PlainList a vs.toArray:=pl'.at fun o e => get?_push_of_some _ e
 obtain ⟨ops,hso⟩:=zx (.Slice lower upper step p) (.ref a) (.ref s₄.heap.objs.size)
 refine tail_any (s:={ s₄ with heap:=s₄.heap.push { cls:=.type "slice",data:=.fields #[vl,vu,vst] } }) pl2.isList.typeIs slot_list_getitem.lookup
   (wpAny_getItem_list_slice pl2.isList (Heap.IsSliceOf.new ..) pl pu pst h0 (hQ _ _ (zA kk (zA (zM s₄ { cls:=.type "slice",data:=.fields #[vl,vu,vst] } s₄.toks) (zM _ _ s₄.toks))) ?_) (by rw [size_toArray,q.length]; exact hsz)) hso
 have e : slicePick vs.toArray lo hi st = (zf vs lo hi st).toArray:=by
   unfold slicePick zf
   simp
 rw [e]
 refine wA (h:=s₄.heap.push { cls:=.type "slice",data:=.fields #[vl,vu,vst] }) ?_ 0 (fun m => ?_)
 · unfold zf
   rw [q.length]
   exact (q.pick _).ext fun _ _ e => get?_push_of_some _ e
 · obtain ⟨o,e⟩:=S.old _ m
   have:=get?_push_of_some ({ cls:=.type "slice",data:=.fields #[vl,vu,vst] } : Obj) (ke kk _ _ (k _ _ e))
   exact absurd (lt_size this) (lt_irrefl _)
theorem Qr {vs : List Value} (h : vs.length = 1) : ∃ a,vs = [a]:=by
 cases vs with
 | nil => cases h
 | cons a vs => cases vs with
  | nil => exact ⟨a,rfl⟩
  | cons _ _ => cases h
theorem zAm {vs : List Value} (h : vs.length = 2) : ∃ a b,vs = [a,b]:=by
 cases vs with
 | nil => cases h
 | cons a vs =>
  obtain ⟨b,rfl⟩:=Qr (Nat.succ.inj h)
  exact ⟨a,b,rfl⟩
structure zl (B : Heap) (mg : Str → Option Value) (name : Str) (d : Stmt) (f : Addr) (fd : FuncData) : Prop where
 g : mg name = some (.ref f)
 get : ∃ o,B.get? f = some o ∧ o.data = .func fd
 code : B.CodeRec fd.code fd.qualname
 ok : j4 fd
 args : fd.params = wd d
 body : fd.body = .stmts (zB d)
 scope : fd.scope = zR d
 clo : fd.closure = []
theorem zl.keepy {B : Heap} {mg} {name : Str} {d : Stmt} {f : Addr} {fd : FuncData} (H : zl B mg name d f fd) : ji B (.ref f):=by
 obtain ⟨o,e,q⟩:=H.get
 exact .inr ⟨f,o,fd,rfl,e,q⟩
theorem yC.mulIB (a : Int) (b : Bool) : yC prog w .Mult (.int a) (.bool b) (.int (a * if b = true then 1 else 0)):=by
 intro A M s E Q x y _ rx ry hQ
 obtain ⟨t,rfl⟩:=rx.int_inv; obtain rfl:=ry.bool_inv
 exact IntBool.mul_int_bool (hQ _ _ (zL s _) (.int _ _))
noncomputable def Zh : D → Bool
 | .none | .bool _ | .int _ | .str _ | .bytes _ | .typ _ => true
 | _ => false
theorem W1 {M' : Addr → Prop} {v : Value} {d : D} (r : Rd prog w h M v d) (f : Zh d = true) : Rp prog w h M' v d:=by
 rcases r with r | ⟨a,rfl,c⟩
 · cases r <;> first | exact (Bool.false_ne_true f).elim | constructor
 · cases c <;> exact (Bool.false_ne_true f).elim
theorem Xp {M' : Addr → Prop} {vs : List Value} {ds : List D} (r : xK prog w h M vs ds) (f : (ds.all Zh) = true) : zH prog w h M' vs ds:=by
 induction r with
 | nil => exact .nil
 | cons x _ ih =>
  rw [List.all_cons,and_eq_true] at f
  exact .cons (W1 x f.1) (ih f.2)
theorem zAt {v : Value} {d : D} (r : Rd prog w h M v d) : Rp prog w h (fun _ => False) v d:=by
 rcases r with r | ⟨a,rfl,c⟩
 · exact r.less fun _ x => x.elim
 · cases c with
   | list p q => exact .list p (fun x => x) (q.less fun _ x => x.elim)
   | dct p l g q => exact .dct p l g (fun x => x) (q.less fun _ x => x.elim)
   | itr p => exact .bit p (fun x => x)
   | tab p q => exact .obs p (fun x => x) fun r hr => ⟨(q r hr).1,fun x => x⟩
theorem V4 {vs : List Value} {ds : List D} (r : xK prog w h M vs ds) : zH prog w h (fun _ => False) vs ds:=by
 induction r with
 | nil => exact .nil
 | cons x _ ih => exact .cons (zAt x) ih
noncomputable def xJ (prog : Program) (w : World) (B : Heap) (s₀ : Shared) (Own₀ M₀ : Addr → Prop) (names : zE) (env : Env) (r : D) (fl : Flow) (s' : Shared) : Prop :=
 ∃ v Own' M' ρ' μ',fl = .ret v ∧ St prog w B s₀ Own₀ M₀ names env Own' M' ρ' μ' s' ∧ Rp prog w s'.heap M' v r
noncomputable def vN (prog : Program) (w : World) (k : Nat) (B : Heap) (d : Stmt) (xs : List Str) (ds : List D) (r : D) : Prop :=
 ∀ A s M₀ env Own M s₁,Rm A k → zS B s.heap → St prog w B s (fun _ => False) M₀ (zR d).names env Own M (xs.zip (ds.map RV.dat)) [] s₁ →
  wpAny (model prog w) A (execs (zB d) env) (xJ prog w B s (fun _ => False) M₀ (zR d).names env r) (fun _ _ => False) s₁
theorem ko {mg mb : Str → Option Value} (G : Gl B mg mb) {name : Str} {d : Stmt} {f : Addr} {fd : FuncData} (H : zl B mg name d f fd) {xs : List Str} {ds : List D} {r : D}
   (hb : ∀ vs : List Value,vs.length = xs.length → ∀ s,BindsTo s fd ⟨vs,[]⟩ (xs.zip vs)) (hl : xs.length = ds.length) (hn : xs.Nodup) (hx : (xs.all fun x => zT (zR d).names x) = true)
   (run : vN prog w k B d xs ds r) {A : Around} {M₀ : Addr → Prop} {s : Shared} {E : Value → Shared → Prop} {Q : Value → Shared → Prop} {vs : List Value} (R : Rm A (k + 1)) (X : zS B s.heap) (old : ∀ a,M₀ a → ∃ o,s.heap.get? a = some o)
   (rs : zH prog w s.heap M₀ vs ds) (hQ : ∀ v s',Keeps s s' → Rp prog w s'.heap M₀ v r → Q v s') : wpAny (model prog w) A (call (.ref f) vs) Q E s:=by
 obtain ⟨o,ho,hd⟩:=H.get
 have hlen : vs.length = xs.length:=rs.length.trans hl.symm
 have hzip : (xs.zip vs).map (·.1) = xs:=by rw [List.map_fst_zip]; omega
 refine wpAny_call (VG (M₀:=M₀) (Own₀:=fun _ => False) (μ₀:=[]) (ρ₀:=xs.zip (ds.map RV.dat)) H.ok R (X f o ho) hd G.lim X (by obtain ⟨c,oc,us,t,e1,e2,e3,e4⟩:=H.code; exact ⟨c,oc,us,t,e1,X _ _ e2,e3,e4⟩) H.body (hb vs hlen s) (by rw [hzip]; exact hn) ?_ old (fun _ x => x.elim) (fun x c e => by rw [H.clo] at e; cases e) ?_ (fun _ _ m => by cases m) nodup_nil ?_)
 · rw [H.scope]
   refine all_eq_true.mpr fun p hp => all_eq_true.mp hx p.1 ?_
   rw [← hzip]; exact List.mem_map_of_mem hp
 · intro x z hm
   obtain ⟨i,hi,e⟩:=List.getElem_of_mem hm
   simp only [List.getElem_zip,List.getElem_map,Prod.mk.injEq] at e
   obtain ⟨e1,e2⟩:=e
   have hi' : i < xs.length ∧ i < ds.length:=by simp at hi; omega
   obtain ⟨v,hv,rv⟩:=rs.get (i:=i) (d:=ds[i]) (by simp [hi'.2])
   refine .inl ⟨v, ?_,by rw [← e2]; exact rv⟩
   have : (xs.zip vs)[i]? = some (x,v):=by
    rw [List.getElem?_zip_eq_some]
    exact ⟨by simp [hi'.1,e1],hv⟩
   exact mem_of_getElem? this
 · intro env Own M s₁ R' _ _ S
   rw [H.scope] at S
   refine wpAny_mono (run _ s M₀ env Own M s₁ R' X S) (fun fl s' hf => ?_) fun _ _ x => x.elim
   obtain ⟨v,Own',M',ρ',μ',rfl,S',rv⟩:=hf
   obtain ⟨h',tk,e⟩:=S'.same
   exact hQ v s' ⟨h',tk,e,fun a o q => by have:=S'.keep a o (fun x => x) q; rw [e] at this; exact this⟩ (rv.less S'.more)
theorem zG.of_def {mg mb : Str → Option Value} (G : Gl B mg mb) {name : Str} {d : Stmt} {f : Addr} {fd : FuncData} (H : zl B mg name d f fd) (xs : List Str) {ds : List D} {r : D}
  (hb : ∀ vs : List Value,vs.length = xs.length → ∀ s,BindsTo s fd ⟨vs,[]⟩ (xs.zip vs)) (hl : xs.length = ds.length) (hn : xs.Nodup) (hx : (xs.all fun x => zT (zR d).names x) = true)
  (hf : (ds.all Zh) = true) (run : vN prog w k B d xs ds r) : zG prog w (k + 1) B (.ref f) ds r:=by
 intro A M s E Q vs R X old rs hQ
 exact ko G H hb hl hn hx run R X old (Xp rs hf) hQ
theorem zG.of_defB {mg mb : Str → Option Value} (G : Gl B mg mb) {name : Str} {d : Stmt} {f : Addr} {fd : FuncData} (H : zl B mg name d f fd) (xs : List Str) {ds : List D} {r : D}
  (hb : ∀ vs : List Value,vs.length = xs.length → ∀ s,BindsTo s fd ⟨vs,[]⟩ (xs.zip vs)) (hl : xs.length = ds.length) (hn : xs.Nodup) (hx : (xs.all fun x => zT (zR d).names x) = true)
  (hf : Zh r = true) (run : vN prog w k B d xs ds r) : zG prog w (k + 1) B (.ref f) ds r:=by
 intro A M s E Q vs R X old rs hQ
 exact ko (M₀:=fun _ => False) G H hb hl hn hx run R X (fun _ x => x.elim) (V4 rs) fun v s' ks r => hQ v s' ks (W1 (.inl r) hf)
theorem St.effect (S : St prog w B s₀ Own₀ M₀ names env Own M ρ μ s) {wr : List Addr} {μ' : List (Addr × D)} {h' : Heap} {tk : Nat}
   (hwr : ∀ a ∈ wr,Own a ∧ ∃ d d',(a,d) ∈ μ ∧ zd prog w h' M a d') (hk : ∀ a o,a ∉ wr → s.heap.get? a = some o → h'.get? a = some o)
   (hm : ∀ a d,(a,d) ∈ μ' → (a ∉ wr ∧ (a,d) ∈ μ) ∨ (a ∈ wr ∧ zd prog w h' M a d)) (hd : μ'.map (·.1) = μ.map (·.1)) :
   St prog w B s₀ Own₀ M₀ names env Own M ρ μ' { s with heap:=h',toks:=tk }:=by
 have hmw : ∀ a,¬ M a → a ∉ wr:=fun a m x => m (S.own a (hwr a x).1)
 have hmv : ∀ b o,¬ M b → s.heap.get? b = some o → h'.get? b = some o ∧ ¬ M b:=fun b o m e => ⟨hk b o (hmw b m) e,m⟩
 have hsep : ∀ a ∈ wr,¬ zO names env a:=fun a x => by obtain ⟨_,d,_,m,_⟩:=hwr a x; exact S.sep a d m
 have hcel : ∀ c v,s.heap.IsCell c v → c ∉ wr:=fun c v q x => by obtain ⟨_,d,_,m,_⟩:=hwr c x; exact zr (S.e.mem c d m) q
 obtain ⟨h,t,e⟩:=S.same
 refine ⟨⟨h',tk,by rw [e]⟩,⟨fun b o q => ?_,S.e.n,fun b m => ?_,fun y c q => ?_,fun y u hm => ?_,fun b d hmm => ?_⟩,S.f.to fun b o x q => hk b o (fun z => hsep b z x) q,fun b o n q => ?_,S.own,S.own₀,S.fresh,S.more,S.fr,S.base,fun b d hmm => ?_,by rw [hd]; exact S.nodup⟩
 · refine hk b o (fun z => ?_) (S.e.base b o q)
   rw [S.base b (hwr b z).1] at q; cases q
 · by_cases hz : b ∈ wr
   · obtain ⟨_,_,d',_,c⟩:=hwr b hz; exact yR c
   · obtain ⟨o,q⟩:=S.e.old b m; exact ⟨o,hk b o hz q⟩
 · obtain ⟨u,o,q2,q3⟩:=S.e.celled y c q
   exact ⟨u,o,hk c o (hcel c u ⟨o,q2,q3⟩) q2,q3⟩
 · obtain ⟨v,hv,hr⟩:=S.e.vars y u hm
   refine ⟨v, ?_,hr.to hmv⟩
   rcases hv with ⟨x1,m,n,e1⟩ | ⟨x1,c,e1,o,q2,q3⟩
   · refine .inl ⟨x1,m,n.at' fun o e => hk _ o (fun z => ?_) e,e1⟩
     obtain ⟨_,d,_,mm,_⟩:=hwr _ z
     exact S.sep _ _ mm (.inl rfl)
   · exact .inr ⟨x1,c,e1,o,hk c o (hcel c _ ⟨o,q2,q3⟩) q2,q3⟩
 · rcases hm b d hmm with ⟨n,q⟩ | ⟨_,c⟩
   · exact (S.e.mem b d q).to (fun o q => hk b o n q) hmv
   · exact c
 · refine hk b o (fun z => ?_) (S.keep b o n q)
   rcases S.fresh b (hwr b z).1 with y | y
   · exact n y
   · rw [q] at y; cases y
 · rcases hm b d hmm with ⟨n,q⟩ | ⟨x,c⟩
   · exact S.sep b d q
   · exact hsep b x
theorem St.effect1 {a : Addr} {d d' : D} {pre post : List (Addr × D)} (S : St prog w B s₀ Own₀ M₀ names env Own M ρ μ s) (hμ : μ = pre ++ (a,d) :: post) (ho : Own a) {h' : Heap} {tk : Nat}
   (hk : ∀ b o,b ≠ a → s.heap.get? b = some o → h'.get? b = some o) (hc : zd prog w h' M a d') :
   St prog w B s₀ Own₀ M₀ names env Own M ρ (pre ++ (a,d') :: post) { s with heap:=h',toks:=tk }:=by
 have hnd:=S.nodup
 rw [hμ] at hnd
 simp only [map_append,map_cons] at hnd
 have hpre : ∀ p ∈ pre,p.1 ≠ a:=fun p hp q => by
   rw [nodup_append] at hnd
   exact hnd.2.2 _ (List.mem_map_of_mem hp) _ (.head _) q
 have hpost : ∀ p ∈ post,p.1 ≠ a:=fun p hp q => by
   rw [nodup_append] at hnd
   have:=hnd.2.1
   rw [nodup_cons] at this
   exact this.1 (q ▸ List.mem_map_of_mem hp)
 refine S.effect (wr:=[a]) (fun b hb => ?_) (fun b o hb => hk b o (by simpa using hb)) (fun b x hm => ?_) (by rw [hμ]; simp)
 · cases mem_singleton.mp hb; exact ⟨ho,d,d',by rw [hμ]; simp,hc⟩
 · rcases mem_append.mp hm with hm | hm
   · exact .inl ⟨by simpa using hpre _ hm,by rw [hμ]; exact mem_append_left _ hm⟩
   · rcases mem_cons.mp hm with e | hm
     · cases e; exact .inr ⟨.head _,hc⟩
     · exact .inl ⟨by simpa using hpost _ hm,by rw [hμ]; exact mem_append_right _ (.tail _ hm)⟩
noncomputable def tyD : D → Option String
 | .str _ => some "str"
 | .list _ => some "list"
 | .dct _ _ => some "dict"
 | .int _ => some "int"
 | _ => none
theorem wE {d : D} {T : String} (hT : tyD d = some T) {v : Value} (r : Rd prog w s.heap M v d) : s.TypeIs v T ∧ ∀ a,v = .ref a → ∃ ob,s.heap.get? a = some ob ∧ ob.dict = none:=by
 cases d with
 | str x => obtain ⟨t,rfl⟩:=r.str_inv; cases hT; exact ⟨rfl,fun a e => by cases e⟩
 | int x => obtain ⟨t,rfl⟩:=r.int_inv; cases hT; exact ⟨rfl,fun a e => by cases e⟩
 | list xs => obtain ⟨a,vs,rfl,⟨n,p⟩,_⟩:=r.list_inv; cases hT; exact ⟨⟨_,p,rfl⟩,fun b e => by cases e; exact ⟨_,p,rfl⟩⟩
 | dct ks xs => obtain ⟨a,vs,rfl,p,_⟩:=r.dct_inv; cases hT; obtain ⟨o,es,ep,ho,hc,hd,hr⟩:=p; exact ⟨⟨_,ho,hc.1⟩,fun b e => by cases e; exact ⟨_,ho,hc.2.1⟩⟩
 | _ => cases hT
theorem yX {id : String} {first : List Value} {h : Heap} {es : List Expr} {ds : List D} {pos : Pos} (x : yy prog w A h env M es ds) {s : Shared} {Q : Value → Shared → Prop} (k : zS h s.heap)
  (hQ : ∀ vs s',Keeps s s' → xK prog w s'.heap M vs ds → wpAny (model prog w) A (call (.builtin id) (first ++ vs)) Q E s') : wpAny (model prog w) A (callWith pos (.builtin id) first (backTo pos (starEach es env)) []) Q E s :=
 PySem.Calls.callWith_builtin x.noStar (ZV x k fun vs s₁ k₁ rs => hQ vs s₁ k₁ rs)
theorem yy.few {h : Heap} {es : List Expr} {ds : List D} {pos : Pos} (x : yy prog w A h env M es ds) : (backTo pos (starEach es env)).all (fun x => !x.1) = true:=by
 have:=x.noStar (pos:=pos)
 rw [all_eq_true]
 intro q hq
 cases e : q.1 with
 | false => rfl
 | true =>
  have : (backTo pos (starEach es env)).any (·.1) = true:=List.any_eq_true.mpr ⟨q,hq,e⟩
  simp_all
theorem Ev.meth {h : Heap} {k : Nat} (S : En prog w B names env h M ρ μ) (R : Rm A k) {o : Expr} {name : Str} {apos pos : Pos} {es : List Expr} {T id : String} {dr d : D} {ds : List D}
   (ho : Ev prog w A h o env (PR prog w M dr)) (hT : tyD dr = some T) (pa : PlainAttrs T) (slot : Slot T name id) (hty : typeOf (.builtin id) = pure (.type "method_descriptor"))
   (hx : yy prog w A h env M es ds) (hbase : attributeBase o name env (eval o env) = eval o env) (hfew : decide (es.length + 0 + 0 < 30) = true) (hline : (apos.endLine == pos.line) = true)
   (hc : zG prog w k B (.builtin id) (dr :: ds) d) : Ev prog w A h (.Call (.Attribute o name apos) es [] pos) env (PS prog w M d):=by
 intro s E Q kx hQ
 refine wpAny_Call_method hbase ?_ hline pa slot hty (ho s E _ kx fun ov s₁ k₁ r => ⟨(wE hT r).1,(wE hT r).2, ?_⟩)
 · rw [hx.few]; exact hfew
 · refine yX hx (kx.trans (ke k₁)) fun vs s₂ k₂ rs => ?_
   have X:=kx.trans ((ke k₁).trans (ke k₂))
   refine hc A M s₂ E Q _ R (S.base.trans X) (fun a m => ?_) (.cons (r.ext (ke k₂)) rs) fun v s' k₃ r => hQ v s' (zA k₁ (zA k₂ k₃)) r
   obtain ⟨o,e⟩:=S.old a m
   exact ⟨o,X _ _ e⟩
noncomputable def wI (prog : Program) (w : World) (k : Nat) (f : Value) (d : D) (ds : List D) (d' r : D) : Prop :=
 ∀ (A : Around) (M : Addr → Prop) (s : Shared) (E : Value → Shared → Prop) (Q : Value → Shared → Prop) (a : Addr) (vs : List Value),Rm A k → M a → zd prog w s.heap M a d → zH prog w s.heap M vs ds →
  (∀ v s',Xj [a] s s' → zd prog w s'.heap M a d' → Rp prog w s'.heap M v r → Q v s') → wpAny (model prog w) A (call f (.ref a :: vs)) Q E s
theorem YI (its : Array Value) (n : Nat) (f : Array Value → Array Value) : ∃ m,Obj.mapSeq f { cls:=.type "list",data:=.seq its n } = { cls:=.type "list",data:=.seq (f its) m }:=⟨_,by simp only [Obj.mapSeq]; rfl⟩
theorem vc {a : Addr} {s : Shared} {h' : Heap} {tk : Nat} (x : Heap.SameBut a s.heap h') : Xj [a] s { s with heap:=h',toks:=tk }:=⟨h',tk,rfl,fun b o n e => (x.2 b (by simpa using n)).trans e⟩
theorem yx {a : Addr} {h h' : Heap} {M : Addr → Prop} (x : Heap.SameBut a h h') (m : M a) : ∀ b o,¬ M b → h.get? b = some o → h'.get? b = some o ∧ ¬ M b:=fun b o n e => ⟨(x.2 b fun q => n (q ▸ m)).trans e,n⟩
theorem wI.append {k : Nat} (xs : List D) (d : D) (hs : xs.length ≤ sizeLine) : wI prog w k (.builtin "list.append") (.list xs) [d] (.list (xs ++ [d])) .none:=by
 intro A M s E Q a vs R m c rs hQ
 obtain ⟨us,p,q⟩:=c.list_inv
 cases rs with | cons r0 rs => cases rs with | nil =>
 refine wpAny_list_append_plain p (fun h' p' sb => hQ _ _ (vc sb) (.list (vs:=us ++ [_]) (by simpa using p') ((zH.to (yx sb m) q).append (.cons (Rp.to (yx sb m) r0) .nil))) .none) ?_
 rw [size_toArray,q.length]; exact hs
theorem YY {h : Heap} {a : Addr} {its : Array Value} {n : Nat} {f : Array Value → Array Value} (e : h.get? a = some { cls:=.type "list",data:=.seq its n }) : (h.update a (Obj.mapSeq f)).PlainList a (f its):=by
 obtain ⟨m,q⟩:=YI its n f
 exact ⟨m,by rw [get?_update_self _ e (by rw [q]; rfl),q]⟩
theorem wI.insert {k : Nat} (xs : List D) (i : Nat) (I : Int) (d : D) (hI : I = (i : Int)) (hi : i ≤ xs.length) (hs : xs.length ≤ sizeLine) : wI prog w k (.builtin "list.insert") (.list xs) [.int I,d] (.list (xs.take i ++ d :: xs.drop i)) .none:=by
 intro A M s E Q a vs R m c rs hQ
 obtain ⟨us,⟨n,p⟩,q⟩:=c.list_inv
 cases rs with | cons r0 rs => cases rs with | cons r1 rs => cases rs with | @nil =>
 rename_i v0 v1
 obtain ⟨t,rfl⟩:=r0.int_inv
 have hf : ¬(!Builtin.List.listFitsIndex I) = true:=by
   have : sizeLine < 4611686018427387904:=by rw [sizeLine_eq]; decide
   have : i < 4611686018427387904:=by omega
   simp only [Builtin.List.listFitsIndex,not_eq_true',Bool.and_eq_false_imp,decide_eq_true_eq,decide_eq_false_iff_not]
   omega
 refine call_meets F.slot_list_insert ⟨_,p,rfl⟩ F.entry_list_insert (F.args_list_insert_3 (.ref a) (.int I t) v1) (AutoSeq1.list_insert_list_int_val_1 a us.toArray n I t v1 hf (by rw [size_toArray,q.length]; exact hs)) ⟨p, ?_⟩
 have sb : Heap.SameBut a s.heap (s.heap.update a (Obj.mapSeq fun xs => have k:=if I < 0 then (I + (xs.size : Int)).toNat else min I.toNat xs.size; (xs.extract 0 k).push v1 ++ xs.extract k)):=Heap.SameBut.update ..
 refine hQ _ _ (vc sb) ?_ .none
 have:=YY (f:=fun xs => have k:=if I < 0 then (I + (xs.size : Int)).toNat else min I.toNat xs.size; (xs.extract 0 k).push v1 ++ xs.extract k) p
 refine .list (vs:=us.take i ++ v1 :: us.drop i) ?_ ?_
 · have hl : us.length = xs.length:=q.length
   have e : (fun xs : Array Value => have k:=if I < 0 then (I + (xs.size : Int)).toNat else min I.toNat xs.size; (xs.extract 0 k).push v1 ++ xs.extract k) us.toArray = (us.take i ++ v1 :: us.drop i).toArray:=by
    have h0 : ¬ (I < 0):=by rw [hI]; exact not_lt.mpr (natCast_nonneg _)
    have h1 : I.toNat = i:=by rw [hI]; rfl
    simp only [h0,if_false,h1,size_toArray]
    rw [min_eq_left (by omega)]
    apply ext'
    simp
    rw [List.take_of_length_le (by simp)]
   exact e ▸ this
 · have u:=yx sb m
   exact ((zH.to u q).take i).append (.cons (Rp.to u r1) ((zH.to u q).drop i))
theorem Zr.rd {h : Heap} {es : List Expr} {ds : List D} (x : Zr prog w A h env M es ds) : yy prog w A h env M es ds:=by
 induction x with
 | nil => exact .nil
 | cons hv _ hs ih => exact .cons (hv.mono fun _ _ r => .inl r) ih hs
theorem wS {h : Heap} {f : Value} {es : List Expr} {ds : List D} {pos : Pos} (x : Zr prog w A h env M es ds) {s : Shared} {Q : Args → Shared → Prop} (k : zS h s.heap)
  (hQ : ∀ vs s',Keeps s s' → zH prog w s'.heap M vs ds → Q ⟨vs,[]⟩ s') : wpAny (model prog w) A (evalArgs f true (backTo pos (starEach es env)) []) Q E s:=by
 have key:=x9 (pos:=pos) x s E (fun vs s' => Q ⟨vs,[]⟩ s') k hQ
 cases x with
 | nil => exact evalArgs_nil3 (hQ [] s (zF s) .nil)
 | cons hv _ hs =>
  rw [hs] at key ⊢
  exact evalArgs_plain key
theorem zAZ {k : Nat} (S : St prog w B s₀ Own₀ M₀ names env Own M ρ μ s) (R : Rm A k) {x : Str} {xp apos pos : Pos} {name : Str} {T id : String} {es : List Expr} {a : Addr} {d d' r : D} {ds : List D} {pre post : List (Addr × D)}
   (hm : (x,RV.adr a) ∈ ρ) (hdb : (x == ("__debug__" : Str)) = false) (hμ : μ = pre ++ (a,d) :: post) (ho : Own a) (hT : tyD d = some T) (pa : PlainAttrs T) (slot : Slot T name id) (hty : typeOf (.builtin id) = pure (.type "method_descriptor"))
   (hx : Zr prog w A s.heap env M es ds) (hfew : decide (es.length + 0 + 0 < 30) = true) (hline : (apos.endLine == pos.line) = true) (hc : wI prog w k (.builtin id) d ds d' r) {Q : Value → Shared → Prop}
   (hQ : ∀ v s',St prog w B s₀ Own₀ M₀ names env Own M ρ (pre ++ (a,d') :: post) s' → Rp prog w s'.heap M v r → Q v s') : wpAny (model prog w) A (eval (.Call (.Attribute (.Name x xp) name apos) es [] pos) env) Q E s:=by
 have hc0:=S.e.mem a d (by rw [hμ]; simp)
 refine wpAny_Call_method (by rfl) ?_ hline pa slot hty (Ev.var S.e hm hdb s E _ (zS.refl _) fun ov s₁ k₁ r => ?_)
 · rw [hx.rd.few]; exact hfew
 cases r
 have rr : Rd prog w s₁.heap M (.ref a) d:=.inr ⟨a,rfl,hc0.ext (ke k₁)⟩
 refine ⟨(wE hT rr).1,(wE hT rr).2, ?_⟩
 refine PySem.Calls.callWith_builtin hx.rd.noStar ?_
 refine wS hx (ke k₁) fun vs s₂ k₂ rs => ?_
 · have S₂:=S.step (zA k₁ k₂)
   refine hc A M s₂ E Q a vs R (S.own a ho) (hc0.ext ((ke k₁).trans (ke k₂))) rs fun v s' ef c' rv => hQ v s' ?_ rv
   obtain ⟨h',tk,rfl,kk⟩:=ef
   exact S₂.effect1 hμ ho (fun b o n e => kk b o (by simpa using n) e) c'
noncomputable def kK (prog : Program) (w : World) (A : Around) (h : Heap) (e : Expr) (env : Env) (M : Addr → Prop) (d : D) : Prop :=
 ∀ (s : Shared) (E : Value → Shared → Prop) (Q : Value → Shared → Prop),zS h s.heap → (∀ a s',Keeps s s' → s.heap.get? a = none → zd prog w s'.heap (fun b => M b ∨ b = a) a d → Q (.ref a) s') → wpAny (model prog w) A (eval e env) Q E s
theorem z9 {s s₁ : Shared} (k : Keeps s s₁) {a : Addr} (n : s₁.heap.get? a = none) : s.heap.get? a = none:=by
 cases e : s.heap.get? a with
 | none => rfl
 | some o => rw [ke k a o e] at n; cases n
theorem kK.list {h : Heap} {es : List Expr} {ds : List D} {p : Pos} (x : Zr prog w A h env M es ds) (hl : ds.length ≤ sizeLine) : kK prog w A h (.List es p) env M (.list ds):=by
 intro s E Q k hQ
 refine List_ (x9 x s E _ k fun vs s₁ k₁ rs => ?_)
 refine wpAny_newObj_type (hQ _ _ (zA k₁ (zM s₁ _ _)) (z9 k₁ (zc _)) (.list (vs:=vs) ⟨0,get?_push_size _ rfl⟩ (zH.to (fun a o m e => ⟨get?_push_of_some _ e,fun z => z.elim m fun q => ?_⟩) rs))) (by show vs.toArray.size ≤ sizeLine; rw [size_toArray,rs.length]; exact hl)
 rw [q,zc] at e; cases e
theorem St.fresh_not (S : St prog w B s₀ Own₀ M₀ names env Own M ρ μ s) {a : Addr} (n : s.heap.get? a = none) : ¬ M a:=fun m => by obtain ⟨o,e⟩:=S.e.old a m; rw [n] at e; cases e
theorem wC (S : St prog w B s₀ Own₀ M₀ names env Own M ρ μ s) {x : Str} {p pos : Pos} {e : Expr} {d : D} (hv : kK prog w A s.heap e env M d) (hx : zT names x = true)
  (hs : swapsWith e (some (.Name x p)) pos.line env = pure false)
  (k : ∀ a s',¬ M a → St prog w B s₀ Own₀ M₀ names env (fun b => Own b ∨ b = a) (fun b => M b ∨ b = a) ((x,.adr a) :: YX x ρ) ((a,d) :: μ) s' → wpAny (model prog w) A (execs rest env) Q E s') :
  wpAny (model prog w) A (execs (.Assign [.Name x p] e pos :: rest) env) Q E s :=
 wpAny_execs_cons (wpAny_Assign_Name (hv s E _ (zS.refl _) fun a s₁ k₁ n c => (S.mut k₁ n c).store (r:=.adr a) rfl hx fun s' S' => k a s' (S.fresh_not n) S') hs)
theorem wm {k : Nat} (S : St prog w B s₀ Own₀ M₀ names env Own M ρ μ s) (R : Rm A k) {x : Str} {xp apos pos pos2 : Pos} {name : Str} {T id : String} {es : List Expr} {a : Addr} {d d' : D} {ds : List D} {pre post : List (Addr × D)}
  (hm : (x,RV.adr a) ∈ ρ) (hdb : (x == ("__debug__" : Str)) = false) (hμ : μ = pre ++ (a,d) :: post) (ho : Own a) (hT : tyD d = some T) (pa : PlainAttrs T) (slot : Slot T name id) (hty : typeOf (.builtin id) = pure (.type "method_descriptor"))
  (hx : Zr prog w A s.heap env M es ds) (hfew : decide (es.length + 0 + 0 < 30) = true) (hline : (apos.endLine == pos.line) = true) (hc : wI prog w k (.builtin id) d ds d' .none)
  (hQ : ∀ s',St prog w B s₀ Own₀ M₀ names env Own M ρ (pre ++ (a,d') :: post) s' → wpAny (model prog w) A (execs rest env) Q E s') :
  wpAny (model prog w) A (execs (.Expr (.Call (.Attribute (.Name x xp) name apos) es [] pos) pos2 :: rest) env) Q E s:=by
 refine wpAny_execs_cons (wpAny_Expr (zAZ S R hm hdb hμ ho hT pa slot hty hx hfew hline hc fun v s' S' r => ?_) (by simp [interactive,S.e.n.fn]) rfl)
 rw [r.none_inv]; exact hQ s' S'
inductive El where
 | dat (d : D)
 | new (d : D)
noncomputable def zBK (prog : Program) (w : World) (A : Around) (B : Heap) (names : zE) (env : Env) (ρ : List (Str × RV)) (e : Expr) : El → Prop
 | .dat d => ∀ h M μ,En prog w B names env h M ρ μ → Ev prog w A h e env (PS prog w M d)
 | .new d => ∀ h M μ,En prog w B names env h M ρ μ → kK prog w A h e env M d
noncomputable def kZ (P : (Addr → Prop) → (Addr → Prop) → List (Addr × D) → List RV → Prop) : List El → (Addr → Prop) → (Addr → Prop) → List (Addr × D) → List RV → Prop
 | [],O,M,μ,rs => P O M μ rs
 | .dat d :: l,O,M,μ,rs => kZ P l O M μ (rs ++ [.dat d])
 | .new d :: l,O,M,μ,rs => ∀ a,¬ M a → kZ P l (fun b => O b ∨ b = a) (fun b => M b ∨ b = a) ((a,d) :: μ) (rs ++ [.adr a])
inductive Wq (prog : Program) (w : World) (A : Around) (B : Heap) (names : zE) (env : Env) (ρ : List (Str × RV)) : List Expr → List El → Prop
 | nil : Wq prog w A B names env ρ [] []
 | cons {e : Expr} {es : List Expr} {d : El} {ds : List El} : zBK prog w A B names env ρ e d → Wq prog w A B names env ρ es ds → (∀ rest,starEach (e :: rest) env = (false,eval e env) :: starEach rest env) → Wq prog w A B names env ρ (e :: es) (d :: ds)
inductive zP (prog : Program) (w : World) (h : Heap) (M : Addr → Prop) : List Value → List RV → Prop
 | nil : zP prog w h M [] []
 | cons {v : Value} {vs : List Value} {d : RV} {ds : List RV} : zt prog w h M v d → zP prog w h M vs ds → zP prog w h M (v :: vs) (d :: ds)
section
variable {G : List Value → Prop} {vs : List Value} {a b c d : RV}
@[elab_as_elim] theorem zP.use0 (x : zP prog w h M vs []) (k : G []) : G vs:=by cases x; exact k
@[elab_as_elim] theorem zP.useS {l : List RV} (x : zP prog w h M vs (a :: l)) (k : ∀ u us,zt prog w h M u a → zP prog w h M us l → G (u :: us)) : G vs:=by
 cases x with | cons r q => exact k _ _ r q
@[elab_as_elim] theorem zP.use1 (x : zP prog w h M vs [a]) (k : ∀ u,zt prog w h M u a → G [u]) : G vs:=zP.useS x fun u _ r q => zP.use0 (G:=fun us => G (u :: us)) q (k u r)
@[elab_as_elim] theorem zP.use2 (x : zP prog w h M vs [a,b]) (k : ∀ u v,zt prog w h M u a → zt prog w h M v b → G [u,v]) : G vs:=zP.useS x fun u _ r q => zP.use1 (G:=fun us => G (u :: us)) q fun v => k u v r
@[elab_as_elim] theorem zP.use3 (x : zP prog w h M vs [a,b,c]) (k : ∀ u v z,zt prog w h M u a → zt prog w h M v b → zt prog w h M z c → G [u,v,z]) : G vs:=zP.useS x fun u _ r q => zP.use2 (G:=fun us => G (u :: us)) q fun v z => k u v z r
@[elab_as_elim] theorem zP.use4 (x : zP prog w h M vs [a,b,c,d]) (k : ∀ u v z y,zt prog w h M u a → zt prog w h M v b → zt prog w h M z c → zt prog w h M y d → G [u,v,z,y]) : G vs:=zP.useS x fun u _ r q => zP.use3 (G:=fun us => G (u :: us)) q fun v z y => k u v z y r
end
theorem zP.to {h h' : Heap} {M M' : Addr → Prop} (hk : ∀ a o,¬ M a → h.get? a = some o → h'.get? a = some o ∧ ¬ M' a) {vs : List Value} {rs : List RV} (x : zP prog w h M vs rs) : zP prog w h' M' vs rs:=by
 induction x with
 | nil => exact .nil
 | cons a _ ih => exact .cons (a.to hk) ih
theorem zP.ext {h h' : Heap} {M : Addr → Prop} (k : zS h h') {vs : List Value} {rs : List RV} (x : zP prog w h M vs rs) : zP prog w h' M vs rs:=x.to fun a o m e => ⟨k a o e,m⟩
theorem zP.length {h : Heap} {M : Addr → Prop} {vs : List Value} {rs : List RV} (x : zP prog w h M vs rs) : vs.length = rs.length:=by
 induction x with
 | nil => rfl
 | cons _ _ ih => simp [ih]
theorem zP.snoc {h : Heap} {M : Addr → Prop} {vs : List Value} {rs : List RV} (x : zP prog w h M vs rs) {v : Value} {r : RV} (y : zt prog w h M v r) : zP prog w h M (vs ++ [v]) (rs ++ [r]):=by
 induction x with
 | nil => exact .cons y .nil
 | cons a _ ih => exact .cons a ih
theorem zP.rev {h : Heap} {M : Addr → Prop} {vs : List Value} {rs : List RV} (x : zP prog w h M vs rs) : zP prog w h M vs.reverse rs.reverse:=by
 induction x with
 | nil => exact .nil
 | cons a _ ih => simp only [List.reverse_cons]; exact ih.snoc a
theorem je {es : List Expr} {els : List El} {pos : Pos} (x : Wq prog w A B names env ρ es els) : ∀ {Own M : Addr → Prop} {μ : List (Addr × D)} {s : Shared} {vs₀ : List Value} {rs₀ : List RV} {P : List Value → Shared → Prop},
  St prog w B s₀ Own₀ M₀ names env Own M ρ μ s → zP prog w s.heap M vs₀ rs₀ →
  kZ (fun O M μ rs => ∀ vs s',St prog w B s₀ Own₀ M₀ names env O M ρ μ s' → zP prog w s'.heap M vs rs → P vs s') els Own M μ rs₀ →
  wpAny (model prog w) A (spliced (backTo pos (starEach es env))) (fun vs s' => P (vs₀ ++ vs) s') E s:=by
 induction x with
 | nil => intro Own M μ s vs₀ rs₀ P S r k; exact spliced_nil (by rw [append_nil]; exact k vs₀ s S r)
 | @cons e es d ds hv _ hs ih =>
  intro Own M μ s vs₀ rs₀ P S r k
  rw [hs]
  show wpAny _ _ (spliced ((false,eval e env) :: backTo pos (starEach es env))) _ E s
  cases d with
  | dat d =>
   refine spliced_cons (hv s.heap M μ S.e s E _ (zS.refl _) fun v s₁ k₁ rv => ?_)
   have:=ih (S.step k₁) ((r.ext (ke k₁)).snoc (r:=.dat d) rv) k
   simpa using this
  | new d =>
   refine spliced_cons (hv s.heap M μ S.e s E _ (zS.refl _) fun a s₁ k₁ n c => ?_)
   have:=ih (S.mut k₁ n c) ((r.to (M':=fun b => M b ∨ b = a) fun b o m e => ⟨ke k₁ b o e,fun z => z.elim m fun q => by rw [q,n] at e; cases e⟩).snoc (v:=.ref a) (r:=.adr a) rfl) (k a (S.fresh_not n))
   simpa using this
theorem vT (ps : List (Str × Pos)) : ((assignEach (ps.map fun p => Expr.Name p.1 p.2) env).map (·.2)) = ps.map fun p => assign (.Name p.1 p.2) env:=by
 rw [zh,map_map]; rfl
theorem qG {f : Str × Pos → Value → Sem Unit} (hf : ∀ (p : Str × Pos) (v : Value) (s : Shared) (Q : Unit → Shared → Prop),wpAny (model prog w) A (storeName env p.1 v) Q E s → wpAny (model prog w) A (f p v) Q E s) :
  ∀ (ps : List (Str × Pos)) (vs : List Value) (rs : List RV) (Q : Unit → Shared → Prop) (s : Shared) (ρ : List (Str × RV)),(ps.all fun p => zT names p.1) = true → St prog w B s₀ Own₀ M₀ names env Own M ρ μ s → zP prog w s.heap M vs rs → ps.length = rs.length →
  (∀ s',St prog w B s₀ Own₀ M₀ names env Own M (((ps.map (·.1)).zip rs).reverse ++ ρ.filter fun p => !(ps.map (·.1)).contains p.1) μ s' → (ps.map (·.1)).Nodup → Q () s') → (ps.map (·.1)).Nodup →
  wpAny (model prog w) A (assignInOrder (ps.map f) vs) Q E s:=by
 intro ps
 induction ps with
 | nil =>
  intro vs rs Q s ρ hk S r hl hQ hn
  cases rs with
  | nil => cases r; exact assignInOrder_nil (hQ s (S.sub fun x r hm => by simpa using hm) hn)
  | cons => cases hl
 | cons p ps ih =>
  intro vs rs Q s ρ hk S r hl hQ hn
  cases r with
  | nil => cases hl
  | @cons v vs d rs rv rs' =>
   simp only [map_cons] at hn ⊢
   have hn':=hn
   rw [nodup_cons] at hn
   simp only [List.all_cons,and_eq_true] at hk
   refine assignInOrder_cons (hf p v s _ (yO S.e.n S.f (yd hk.1) fun h' tk F' hv hy hh => ?_))
   have S' : St prog w B s₀ Own₀ M₀ names env Own M ((p.1,d) :: YX p.1 ρ) μ { s with heap:=h',toks:=tk }:=S.written F' (fun a o n e => (hh a n).trans e) fun y u hm => by
     rcases mem_cons.mp hm with e2 | hm
     · cases e2; exact ⟨v,hv,rv⟩
     · have hm2:=mem_filter.mp hm
       obtain ⟨u',hu,hr'⟩:=S.e.vars y u hm2.1
       exact ⟨u',hy y u' (by simpa using hm2.2) hu,hr'⟩
   have hmo : ∀ a o,¬ M a → s.heap.get? a = some o → h'.get? a = some o ∧ ¬ M a:=fun a o m e => ⟨(hh a fun x => m (S.own a (S.fr a x))).trans e,m⟩
   refine ih vs rs Q _ _ hk.2 S' (rs'.to hmo) (by simpa using hl) (fun s' S'' _ => hQ s' (S''.sub fun x r hm => ?_) hn') hn.2
   rcases mem_append.mp hm with hm | hm
   · rw [map_cons,zip_cons_cons,List.reverse_cons] at hm
     rcases mem_append.mp hm with hm | hm
     · exact mem_append_left _ hm
     · cases mem_singleton.mp hm
       refine mem_append_right _ (mem_filter.mpr ⟨.head _,by simpa using hn.1⟩)
   · have hm2:=mem_filter.mp hm
     have h3 : (ps.map (·.1)).contains x = false ∧ x ≠ p.1:=by
       have:=hm2.2
       simp only [map_cons,List.contains_cons,Bool.not_or,and_eq_true,not_eq_true'] at this
       exact ⟨this.2,by simpa using this.1⟩
     exact mem_append_right _ (mem_filter.mpr ⟨List.mem_cons_of_mem _ (jt hm2.1 (by simpa using h3.2)),by rw [h3.1]; rfl⟩)
theorem qU {α β : Type} : ∀ (xs : List α) (ys : List β),xs.length = ys.length → xs.reverse.zip ys.reverse = (xs.zip ys).reverse
 | [],[],_ => rfl
 | x :: xs,y :: ys,h => by
  simp only [List.reverse_cons,zip_cons_cons]
  rw [List.zip_append (by simpa using h),qU xs ys (by simpa using h)]; rfl
 | [],_ :: _,h => by cases h
 | _ :: _,[],h => by cases h
theorem zBN : ∀ (els : List El) {O M : Addr → Prop} {μ : List (Addr × D)} {rs : List RV} {P P' : (Addr → Prop) → (Addr → Prop) → List (Addr × D) → List RV → Prop},(∀ O M μ rs',rs'.length = rs.length + els.length → P O M μ rs' → P' O M μ rs') → kZ P els O M μ rs → kZ P' els O M μ rs:=by
 intro els
 induction els with
 | nil => intro O M μ rs P P' hp c; exact hp O M μ rs (by simp) c
 | cons e els ih =>
  intro O M μ rs P P' hp c
  cases e with
  | dat d => exact ih (fun O M μ rs' hl => hp O M μ rs' (by rw [length_append] at hl; exact hl.trans (Nat.succ_add _ _))) c
  | new d => exact fun a na => ih (fun O M μ rs' hl => hp O M μ rs' (by rw [length_append] at hl; exact hl.trans (Nat.succ_add _ _))) (c a na)
noncomputable abbrev Qs (prog : Program) (w : World) (A : Around) (B : Heap) (s₀ : Shared) (Own₀ M₀ : Addr → Prop) (names : zE) (env : Env) (ρ : List (Str × RV)) (ps : List (Str × Pos)) (rest : List Stmt) (Q : Flow → Shared → Prop) (E : Value → Shared → Prop) (O M : Addr → Prop) (μ : List (Addr × D)) (rs : List RV) : Prop :=
 ∀ s',St prog w B s₀ Own₀ M₀ names env O M (((ps.map (·.1)).zip rs) ++ ρ.filter fun p => !(ps.map (·.1)).contains p.1) μ s' → wpAny (model prog w) A (execs rest env) Q E s'
theorem Zp (R : Rm A 0) {elts : List Expr} (ps : List (Str × Pos)) (he : elts = ps.map fun p => Expr.Name p.1 p.2) {k k2 : Nat} {tpos vpos pos : Pos} {es : List Expr} (hn : (ps.map (·.1)).Nodup) (hk : (ps.all fun p => zT names p.1) = true)
   (hw : swappedStores [.Tuple elts k tpos] (.Tuple es k2 vpos) env = pure none ∨ swappedStores [.Tuple elts k tpos] (.Tuple es k2 vpos) env = pure (some (ps.map (·.1))))
   (ev : ∀ (Q' : Value → Shared → Prop),(∀ (O M : Addr → Prop) (μ : List (Addr × D)) (rs : List RV) (vs : List Value) (s₁ : Shared) (t : Addr),rs.length = ps.length → Qs prog w A B s₀ Own₀ M₀ names env ρ ps rest Q E O M μ rs →
     St prog w B s₀ Own₀ M₀ names env O M ρ μ s₁ → zP prog w s₁.heap M vs rs → K9 s₁.heap t vs → Q' (.ref t) s₁) → wpAny (model prog w) A (eval (.Tuple es k2 vpos) env) Q' E s) :
   wpAny (model prog w) A (execs (.Assign [.Tuple elts k tpos] (.Tuple es k2 vpos) pos :: rest) env) Q E s:=by
 refine wpAny_execs_cons ?_
 have done : ∀ (O M : Addr → Prop) (μ : List (Addr × D)) (rs : List RV),rs.length = ps.length → Qs prog w A B s₀ Own₀ M₀ names env ρ ps rest Q E O M μ rs →
     ∀ (vs : List Value) (s₁ : Shared),St prog w B s₀ Own₀ M₀ names env O M ρ μ s₁ → zP prog w s₁.heap M vs rs → ∀ (E' : Value → Shared → Prop) (j : Unit → Shared → Prop),(∀ s',wpAny (model prog w) A (execs rest env) Q E s' → j () s') →
       (∀ (f : Str × Pos → Value → Sem Unit),(∀ (p : Str × Pos) (v : Value) (s : Shared) (Q : Unit → Shared → Prop),wpAny (model prog w) A (storeName env p.1 v) Q E s → wpAny (model prog w) A (f p v) Q E s) → wpAny (model prog w) A (assignInOrder (ps.map f) vs) j E s₁) ∧
       (∀ (f : Str × Pos → Value → Sem Unit),(∀ (p : Str × Pos) (v : Value) (s : Shared) (Q : Unit → Shared → Prop),wpAny (model prog w) A (storeName env p.1 v) Q E s → wpAny (model prog w) A (f p v) Q E s) → wpAny (model prog w) A (assignInOrder (ps.reverse.map f) vs.reverse) j E s₁):=by
   intro O M μ rs hlr hcont vs s₁ S₁ r E' j hj
   refine ⟨fun f hf => ?_,fun f hf => ?_⟩
   · refine qG hf ps vs rs j s₁ ρ hk S₁ r (by omega) (fun s' S' _ => hj s' (hcont s' (S'.sub fun x r hm => ?_))) hn
     rcases mem_append.mp hm with hm | hm
     · exact mem_append_left _ (mem_reverse.mpr hm)
     · exact mem_append_right _ hm
   · refine qG hf ps.reverse vs.reverse rs.reverse j s₁ ρ (by rw [List.all_reverse]; exact hk) S₁ r.rev (by simp; omega) (fun s' S' _ => hj s' (hcont s' (S'.sub fun x r hm => ?_))) (by rw [List.map_reverse]; exact (List.reverse_perm _).nodup_iff.mpr hn)
     rcases mem_append.mp hm with hm | hm
     · refine mem_append_left _ ?_
       rw [List.map_reverse,qU _ _ (by simp; omega),List.reverse_reverse]; exact hm
     · refine mem_append_right _ ?_
       have:=mem_filter.mp hm
       refine mem_filter.mpr ⟨this.1, ?_⟩
       rw [List.map_reverse]
       have h3:=this.2
       simp only [not_eq_true',List.contains_eq_mem,mem_reverse,decide_eq_false_iff_not] at h3 ⊢
       exact h3
 have hlp : ∀ {h : Heap} {M : Addr → Prop} {vs : List Value} {rs : List RV},zP prog w h M vs rs → rs.length = ps.length → vs.length = ps.length:=fun r hl' => by rw [r.length]; exact hl'
 have ext_but : ∀ {s₁ : Shared} {h' : Heap},Heap.ExtBut s₁.heap.objs.size s₁.heap h' → Keeps s₁ { s₁ with heap:=h' }:=fun {s₁ h'} x => ⟨h',s₁.toks,rfl,qM x (zc _)⟩
 rcases hw with hw | hw
 · refine PyProof.Rows.Assign_Tuple ?_ rfl hw
   refine ev _ fun O M μ rs vs s₁ t hlr hc S₁ r ht => ?_
   subst he
   obtain ⟨n,ht⟩:=ht
   refine assign_Tuple_tuple R.hh ⟨_,ht,rfl,n,rfl⟩ (by rw [zh]; simp [hlp r hlr]) ?_ fun h₁ x₁ => ?_
   · rw [zh,List.findIdx?_eq_none_iff]
     intro q hq
     obtain ⟨z,_,rfl⟩:=mem_map.mp hq
     rfl
   · rw [vT]
     exact (done O M μ rs hlr hc vs _ (S₁.step (ext_but x₁)) (r.ext (ke (ext_but x₁))) E _ fun _ x => x).1 _ fun p v s Q hs => wpAny_assign_Name hs
 · refine PyProof.Rows.Assign_Tuple_swapped ?_ rfl hw
   refine ev _ fun O M μ rs vs s₁ t hlr hc S₁ r ht => ?_
   obtain ⟨n,ht⟩:=ht
   have hsz' : (ps.map (·.1)).length = vs.toArray.size:=by rw [length_map,size_toArray]; exact (hlp r hlr).symm
   rw [hsz']
   refine PyProof.Rows.unpackItems_tuple R.hh ⟨_,ht,rfl,n,rfl⟩ fun h₁ x₁ => ?_
   rw [← List.map_reverse,map_map]
   exact (done O M μ rs hlr hc vs _ (S₁.step (ext_but x₁)) (r.ext (ke (ext_but x₁))) E _ fun _ x => x).2 _ fun p v s Q hs => wpAny_bindName hs
theorem Wu (S : St prog w B s₀ Own₀ M₀ names env Own M ρ μ s) (R : Rm A 0) {elts : List Expr} (ps : List (Str × Pos)) (he : elts = ps.map fun p => Expr.Name p.1 p.2) {k k2 : Nat} {tpos vpos pos : Pos} {es : List Expr} {els : List El}
  (hx : Wq prog w A B names env ρ es els) (hn : (ps.map (·.1)).Nodup) (hk : (ps.all fun p => zT names p.1) = true) (hl : ps.length = els.length) (hsz : els.length ≤ 100)
  (hw : swappedStores [.Tuple elts k tpos] (.Tuple es k2 vpos) env = pure none ∨ swappedStores [.Tuple elts k tpos] (.Tuple es k2 vpos) env = pure (some (ps.map (·.1))))
  (h : kZ (Qs prog w A B s₀ Own₀ M₀ names env ρ ps rest Q E) els Own M μ []) :
  wpAny (model prog w) A (execs (.Assign [.Tuple elts k tpos] (.Tuple es k2 vpos) pos :: rest) env) Q E s:=by
 refine Zp (B:=B) (s₀:=s₀) (Own₀:=Own₀) (M₀:=M₀) (ρ:=ρ) R ps he hn hk hw fun Q' hq => Tuple_ ?_
 refine je (E:=E) (pos:=vpos) hx S (vs₀:=[]) (rs₀:=[]) .nil (P:=fun vs s₁ => wpAny (model prog w) A (newObj (.type "tuple") (.seq vs.toArray 0)) Q' E s₁) (zBN els (fun O M μ rs' hl' c => ?_) h)
 intro vs s₁ S₁ r
 have hl' : rs'.length = els.length:=by simpa using hl'
 have hlv : vs.length = els.length:=by rw [r.length,hl']
 exact wpAny_newObj_type (hq O M μ rs' vs _ s₁.heap.objs.size (hl'.trans hl.symm) c (S₁.step (zM s₁ _ s₁.toks)) (r.ext fun _ _ e => get?_push_of_some _ e) ⟨0,get?_push_size _ rfl⟩) (by show vs.toArray.size ≤ sizeLine; rw [size_toArray,hlv,sizeLine_eq]; omega)
theorem JC (R : Rm A 0) {elts : List Expr} (ps : List (Str × Pos)) (he : elts = ps.map fun p => Expr.Name p.1 p.2) {k k2 : Nat} {tpos vpos pos : Pos} {e0 : Expr} {es : List Expr} {els : List El}
   (hst : starEach (e0 :: es) env = (false,eval e0 env) :: starEach es env) (hx : Wq prog w A B names env ρ es els) (hn : (ps.map (·.1)).Nodup) (hk : (ps.all fun p => zT names p.1) = true) (hl : ps.length = els.length + 1) (hsz : els.length ≤ 100)
   (hw : swappedStores [.Tuple elts k tpos] (.Tuple (e0 :: es) k2 vpos) env = pure none ∨ swappedStores [.Tuple elts k tpos] (.Tuple (e0 :: es) k2 vpos) env = pure (some (ps.map (·.1))))
   (h : wpAny (model prog w) A (eval e0 env) (fun v s₁ => ∃ Own M μ r,St prog w B s₀ Own₀ M₀ names env Own M ρ μ s₁ ∧ zt prog w s₁.heap M v r ∧ kZ (Qs prog w A B s₀ Own₀ M₀ names env ρ ps rest Q E) els Own M μ [r]) E s) :
   wpAny (model prog w) A (execs (.Assign [.Tuple elts k tpos] (.Tuple (e0 :: es) k2 vpos) pos :: rest) env) Q E s:=by
 refine Zp (B:=B) (s₀:=s₀) (Own₀:=Own₀) (M₀:=M₀) (ρ:=ρ) R ps he hn hk hw fun Q' hq => Tuple_ ?_
 rw [hst]
 show wpAny _ _ (spliced ((false,eval e0 env) :: backTo vpos (starEach es env))) _ E s
 refine spliced_cons (wpAny_mono h (fun v s₁ q => ?_) fun _ _ x => x)
 obtain ⟨Own,M,μ,r,S₁,hr,C⟩:=q
 have:=je (E:=E) (pos:=vpos) hx S₁ (vs₀:=[v]) (rs₀:=[r]) (.cons hr .nil) (P:=fun vs s₁ => wpAny (model prog w) A (newObj (.type "tuple") (.seq vs.toArray 0)) Q' E s₁) (zBN els (fun O M μ rs' hl' c => ?_) C)
 · exact this
 · intro vs s₂ S₂ r
   have hl' : rs'.length = els.length + 1:=by simpa [add_comm] using hl'
   have hlv : vs.length = els.length + 1:=by rw [r.length,hl']
   exact wpAny_newObj_type (hq O M μ rs' vs _ s₂.heap.objs.size (by omega) c (S₂.step (zM s₂ _ s₂.toks)) (r.ext fun _ _ e => get?_push_of_some _ e) ⟨0,get?_push_size _ rfl⟩) (by show vs.toArray.size ≤ sizeLine; rw [size_toArray,hlv,sizeLine_eq]; omega)
theorem St.freeze {Own' M' : Addr → Prop} {a : Addr} {x : Str} {xs : List D} {μ' : List (Addr × D)} (S : St prog w B s₀ Own₀ M₀ names env Own' M' ρ μ s) (hx : (x,.adr a) ∈ ρ) (hμ : (a,.list xs) ∈ μ)
   (hO : ∀ b,Own b ↔ Own' b ∧ b ≠ a) (hM : ∀ b,M b ↔ M' b ∧ b ≠ a) (n₀ : ¬ Own₀ a) (m₀ : ¬ M₀ a) (hs : ∀ p ∈ μ',p ∈ μ) (hd : (μ'.map (·.1)).Nodup) (hna : ∀ d,(a,d) ∉ μ') :
   St prog w B s₀ Own₀ M₀ names env Own M ((x,.dat (.list xs)) :: ρ) μ' s:=by
 have less : ∀ b,M b → M' b:=fun b m => ((hM b).mp m).1
 have na : ¬ M a:=fun m => ((hM a).mp m).2 rfl
 refine ⟨S.same,⟨S.e.base,S.e.n,fun b m => S.e.old b (less b m),S.e.celled,fun y r hm => ?_,fun b d hm => ?_⟩,S.f,S.keep,fun b o => (hM b).mpr ⟨S.own b ((hO b).mp o).1,((hO b).mp o).2⟩,fun b o => (hO b).mpr ⟨S.own₀ b o,fun q => n₀ (q ▸ o)⟩,fun b o => S.fresh b ((hO b).mp o).1,fun b m => (hM b).mpr ⟨S.more b m,fun q => m₀ (q ▸ m)⟩,fun b f => (hO b).mpr ⟨S.fr b f,fun q => S.sep a _ hμ (q ▸ f)⟩,fun b o => S.base b ((hO b).mp o).1,fun b d hm => S.sep b d (hs _ hm),hd⟩
 · rcases mem_cons.mp hm with e | hm
   · cases e
     obtain ⟨v,hv,hr⟩:=S.e.vars x _ hx
     refine ⟨v,hv, ?_⟩
     cases hr
     obtain ⟨vs,p,q⟩:=(S.e.mem a _ hμ).list_inv
     exact .list p na (q.less less)
   · obtain ⟨v,hv,hr⟩:=S.e.vars y r hm
     exact ⟨v,hv,hr.to fun b o m e => ⟨e,fun z => m (less b z)⟩⟩
 · exact (S.e.mem b d (hs _ hm)).to (fun _ e => e) fun b o m e => ⟨e,fun z => m (less b z)⟩
theorem zBi {μ : List (Addr × D)} (h : (μ.map (·.1)).Nodup) {i j : Nat} {a b : Addr} {d e : D} (hi : μ[i]? = some (a,d)) (hj : μ[j]? = some (b,e)) (hij : i ≠ j) : a ≠ b:=by
 rintro rfl
 have h1 : (μ.map (·.1))[i]? = some a:=by rw [getElem?_map,hi]; rfl
 have h2 : (μ.map (·.1))[j]? = some a:=by rw [getElem?_map,hj]; rfl
 exact hij ((List.getElem?_inj (List.getElem?_eq_some_iff.mp h1).1 h).mp (h1.trans h2.symm))
theorem St.ne_of (S : St prog w B s₀ Own₀ M₀ names env Own M ρ μ s) (i j : Nat) {a b : Addr} {d e : D} (hi : μ[i]? = some (a,d)) (hj : μ[j]? = some (b,e)) (hij : i ≠ j) : a ≠ b:=zBi S.nodup hi hj hij
theorem St.freezeAt {Own' M' : Addr → Prop} {a : Addr} {x : Str} {xs : List D} {pre post : List (Addr × D)} (S : St prog w B s₀ Own₀ M₀ names env Own' M' ρ (pre ++ (a,.list xs) :: post) s) (hx : (x,.adr a) ∈ ρ)
   (hO : ∀ b,Own b ↔ Own' b ∧ b ≠ a) (hM : ∀ b,M b ↔ M' b ∧ b ≠ a) (n₀ : ¬ Own₀ a) (m₀ : ¬ M₀ a) : St prog w B s₀ Own₀ M₀ names env Own M ((x,.dat (.list xs)) :: ρ) (pre ++ post) s:=by
 have hnd:=S.nodup
 have hs : (pre ++ post).Sublist (pre ++ (a,.list xs) :: post):=.append_left (List.sublist_cons_self ..) _
 refine S.freeze hx (mem_append_right _ (.head _)) hO hM n₀ m₀ (fun p hp => hs.subset hp) (hnd.sublist (hs.map _)) fun d hd => ?_
 rw [map_append,map_cons,nodup_append,nodup_cons] at hnd
 rcases mem_append.mp hd with h | h
 · exact hnd.2.2 a (mem_map.mpr ⟨_,h,rfl⟩) a (.head _) rfl
 · exact hnd.2.1.1 (mem_map.mpr ⟨_,h,rfl⟩)
theorem ZP {α β : Type} (c : α → Bool) (f : α → β) (l : List α) (h : (l.filterMap fun x => if c x then some (f x) else none).length = l.length) : (l.filterMap fun x => if c x then some (f x) else none) = l.map f:=by
 induction l with
 | nil => rfl
 | cons x l ih =>
  rw [filterMap_cons] at h ⊢
  cases hx : c x
  · rw [hx] at h; exact absurd (h ▸ List.length_filterMap_le _ l) (Nat.not_succ_le_self _)
  · rw [hx] at h; exact congrArg (f x :: ·) (ih (Nat.succ.inj h))
theorem YM {α : Type} {c : Bool} {x y r : α} (h : c = false → r = x ∨ r = y) : (if c = true then x else r) = x ∨ (if c = true then x else r) = y:=by
 cases c
 · exact h rfl
 · exact .inl rfl
theorem zAN {α : Type} {c : Bool} {x y r : α} (hc : c = false) (h : r = y) : (if c = true then x else r) = y:=by
 cases hc; exact h
theorem ZD (ps : List (Str × Pos)) {k k2 : Nat} {tpos vpos : Pos} {es : List Expr} (hc : (!es.all (constantsAlone 8) || es.all (foldedForSure 8)) = true) :
   swappedStores [.Tuple (ps.map fun p => Expr.Name p.1 p.2) k tpos] (.Tuple es k2 vpos) env = pure none ∨ swappedStores [.Tuple (ps.map fun p => Expr.Name p.1 p.2) k tpos] (.Tuple es k2 vpos) env = pure (some (ps.map (·.1))):=by
 refine YM fun _ => YM fun _ => YM fun h => YM (c:=es.all (foldedForSure 8)) fun h4 => .inr (zAN (c:=es.all (constantsAlone 8)) ?_ (congrArg (fun x => pure (some x)) ?_))
 · rw [h4,Bool.or_false] at hc; exact (not_eq_true' _).mp hc
 · have h1:=bne_eq_false_iff_eq.mp (Bool.or_eq_false_iff.mp h).1
   rw [length_map] at h1
   rw [List.filterMap_map] at h1 ⊢
   exact ZP (fun p : Str × Pos => env.kindOf p.1 == some NameKind.local && p.2.line == _) (fun p => p.1) ps h1
theorem yo {α : Type} {names : zE} {ys : List α} {bs : α → List (Str × RV)} (h : ∀ y,((bs y).all fun p => !(names.lookup p.1 == some NameKind.free)) = true) : ∀ y ∈ ys,∀ x r,(x,r) ∈ bs y → names.lookup x ≠ some .free:=by
 intro y _ x r hm e
 have:=all_eq_true.mp (h y) _ hm
 rw [e] at this; cases this
theorem Ev.comp1 {α : Type} {scope : Scope} {elt iter : Expr} {x : Str} {xp pos : Pos} {dsrc : D} (S : En prog w B names env h M ρ μ) (R : Rm A 0) (hc : yQ names scope = true)
  (hsrc : Ev prog w A h iter env (PR prog w M dsrc)) (ys : List α) (g : α → D) (hs : zj dsrc (ys.map g)) (f : α → D)
  (hx : zT scope.names x = true) (hsz : ys.length ≤ sizeLine) (hfs : ∀ x,foldedSetIterable iter env x = pure x)
  (turn : ∀ y ∈ ys,∀ env' h' M',zS h h' → En prog w B scope.names env' h' M' ((x,.dat (g y)) :: xa scope.names ρ) μ → Ev prog w A h' elt env' (PS prog w M' (f y))) :
  Ev prog w A h (.ListComp elt [⟨.Name x xp,iter,[],0⟩] scope pos) env (PS prog w M (.list (ys.map f))):=by
 refine Ev.compM S R hc hsrc ys g hs (fun y => [(x,.dat (g y))]) f (fun y _ => wu.name hx) (yo fun y => ?_) hsz hfs fun y hy env' h' M' kx hE => turn y hy env' h' M' kx hE
 rcases yd hx with e | e <;> simp [e]
theorem Ev.comp1F {α : Type} {scope : Scope} {elt iter : Expr} {ifs : List Expr} {x : Str} {xp pos : Pos} {dsrc : D} (S : En prog w B names env h M ρ μ) (R : Rm A 0) (hc : yQ names scope = true)
  (hsrc : Ev prog w A h iter env (PR prog w M dsrc)) (ys : List α) (g : α → D) (hs : zj dsrc (ys.map g)) (p : α → Bool) (f : α → D)
  (hx : zT scope.names x = true) (hsz : ys.length ≤ sizeLine) (hfs : ∀ x,foldedSetIterable iter env x = pure x)
  (turn : ∀ y ∈ ys,∀ env' h' M',zS h h' → En prog w B scope.names env' h' M' ((x,.dat (g y)) :: xa scope.names ρ) μ → xl prog w A h' ifs env' (p y) ∧ (p y = true → Ev prog w A h' elt env' (PS prog w M' (f y)))) :
  Ev prog w A h (.ListComp elt [⟨.Name x xp,iter,ifs,0⟩] scope pos) env (PS prog w M (.list ((ys.filter p).map f))):=by
 refine Ev.compF S R hc hsrc ys g hs (fun y => [(x,.dat (g y))]) p f (fun y _ => wu.name hx) (yo fun y => ?_) hsz hfs fun y hy env' h' M' kx hE => turn y hy env' h' M' kx hE
 rcases yd hx with e | e <;> simp [e]
theorem ku {α : Type} {scope : Scope} {elt iter : Expr} {ifs : List Expr} {cpos : Pos} {dsrc : D}
  (S : St prog w B s₀ Own₀ M₀ names env Own M ρ μ s) {x y : Str} {xp yp pos : Pos} (hx : zT names x = true) (R : Rm A 0) (hc : yQ names scope = true)
  (hsrc : Ev prog w A s.heap iter env (PR prog w M dsrc)) (ys : List α) (g : α → D) (hs : zj dsrc (ys.map g)) (p : α → Bool) (f : α → D)
  (hy : zT scope.names y = true) (hsz : ys.length ≤ sizeLine) (hfs : ∀ x,foldedSetIterable iter env x = pure x)
  (turn : ∀ z ∈ ys,∀ env' h' M',zS s.heap h' → En prog w B scope.names env' h' M' ((y,.dat (g z)) :: xa scope.names ρ) μ → xl prog w A h' ifs env' (p z) ∧ (p z = true → Ev prog w A h' elt env' (PS prog w M' (f z))))
  (k : ∀ s',St prog w B s₀ Own₀ M₀ names env Own M ((x,.dat (.list ((ys.filter p).map f))) :: YX x ρ) μ s' → wpAny (model prog w) A (execs rest env) Q E s') :
  wpAny (model prog w) A (execs (.Assign [.Name x xp] (.ListComp elt [⟨.Name y yp,iter,ifs,0⟩] scope cpos) pos :: rest) env) Q E s:=by
 refine Kc S hx R hc hsrc ys g hs (fun z => [(y,.dat (g z))]) p f (fun z _ => wu.name hy) (yo fun z => ?_) hsz hfs (fun z hz env' h' M' kx hE => turn z hz env' h' M' kx hE) k
 rcases yd hy with e | e <;> simp [e]
theorem xw {α : Type} {scope : Scope} {elt iter : Expr} {cpos : Pos} {dsrc : D}
  (S : St prog w B s₀ Own₀ M₀ names env Own M ρ μ s) {x y : Str} {xp yp pos : Pos} (hx : zT names x = true) (R : Rm A 0) (hc : yQ names scope = true)
  (hsrc : Ev prog w A s.heap iter env (PR prog w M dsrc)) (ys : List α) (g : α → D) (hs : zj dsrc (ys.map g)) (f : α → D)
  (hy : zT scope.names y = true) (hsz : ys.length ≤ sizeLine) (hfs : ∀ x,foldedSetIterable iter env x = pure x)
  (turn : ∀ z ∈ ys,∀ env' h' M',zS s.heap h' → En prog w B scope.names env' h' M' ((y,.dat (g z)) :: xa scope.names ρ) μ → Ev prog w A h' elt env' (PS prog w M' (f z)))
  (k : ∀ s',St prog w B s₀ Own₀ M₀ names env Own M ((x,.dat (.list (ys.map f))) :: YX x ρ) μ s' → wpAny (model prog w) A (execs rest env) Q E s') :
  wpAny (model prog w) A (execs (.Assign [.Name x xp] (.ListComp elt [⟨.Name y yp,iter,[],0⟩] scope cpos) pos :: rest) env) Q E s:=by
 refine ku S hx R hc hsrc ys g hs (fun _ => true) f hy hsz hfs (fun z hz env' h' M' kx hE => ⟨xl.nil,fun _ => turn z hz env' h' M' kx hE⟩) ?_
 rw [List.filter_eq_self.mpr fun _ _ => rfl]; exact k
theorem xJ.to {r r' : D} {fl : Flow} {s' : Shared} (e : r = r') (x : xJ prog w B s₀ Own₀ M₀ names env r fl s') : xJ prog w B s₀ Own₀ M₀ names env r' fl s':=e ▸ x
theorem xJ.mk {r : D} {v : Value} (S : St prog w B s₀ Own₀ M₀ names env Own M ρ μ s) (x : Rp prog w s.heap M v r) : xJ prog w B s₀ Own₀ M₀ names env r (.ret v) s:=⟨v,_,_,_,_,rfl,S,x⟩
theorem YE {e : Expr} {pos : Pos} {d r : D} {rest : List Stmt} (S : St prog w B s₀ Own₀ M₀ names env Own M ρ μ s) (hv : Ev prog w A s.heap e env (PS prog w M d)) (he : d = r) :
  wpAny (model prog w) A (execs (.Return (some e) pos :: rest) env) (xJ prog w B s₀ Own₀ M₀ names env r) E s :=
 xO S hv fun v s' S' x => xJ.to he (xJ.mk S' x)
noncomputable def Xk (prog : Program) (w : World) (A : Around) (M : Addr → Prop) (op : Operator) (d₀ d₁ d : D) : Prop :=
 ∀ (s : Shared) (E : Value → Shared → Prop) (Q : Value → Shared → Prop) (a b : Value),Rp prog w s.heap M a d₀ → Rd prog w s.heap M b d₁ → (∀ v s',Keeps s s' → Rp prog w s'.heap M v d → Q v s') → wpAny (model prog w) A (inplaceOp op a b) Q E s
theorem Xk.add (a b : Int) : Xk prog w A M .Add (.int a) (.int b) (.int (a + b)):=by
 intro s E Q x y rx ry hQ
 obtain ⟨t,rfl⟩:=rx.int_inv; obtain ⟨u,rfl⟩:=ry.int_inv
 exact AutoIntOps.iadd_0 (hQ _ _ (zL s _) (.int _ _))
theorem Xk.sub (a b : Int) : Xk prog w A M .Sub (.int a) (.int b) (.int (a - b)):=by
 intro s E Q x y rx ry hQ
 obtain ⟨t,rfl⟩:=rx.int_inv; obtain ⟨u,rfl⟩:=ry.int_inv
 exact AutoIntOps.isub_0 (hQ _ _ (zL s _) (.int _ _))
theorem Xk.xor (a b : Int) : Xk prog w A M .BitXor (.int a) (.int b) (.int (Builtin.bitXor a b)):=by
 intro s E Q x y rx ry hQ
 obtain ⟨t,rfl⟩:=rx.int_inv; obtain ⟨u,rfl⟩:=ry.int_inv
 exact ixor_int (hQ _ _ (zL s _) (.int _ _))
theorem Xk.or (a b : Int) : Xk prog w A M .BitOr (.int a) (.int b) (.int (Builtin.bitOr a b)):=by
 intro s E Q x y rx ry hQ
 obtain ⟨t,rfl⟩:=rx.int_inv; obtain ⟨u,rfl⟩:=ry.int_inv
 exact ior_int (hQ _ _ (zL s _) (.int _ _))
theorem zG.hex (i : Int) (hs : (baseText "0x" 16 i).length ≤ sizeLine) : zG prog w k B (.builtin "hex") [.int i] (.str (baseText "0x" 16 i)):=by
 intro A M s E Q vs R X old rs hQ
 obtain ⟨v,rfl,r⟩:=rs.one_inv
 obtain ⟨t,rfl⟩:=r.int_inv
 exact P.hex_of_int (hQ _ _ (zL s _) (.str _ _)) hs
theorem Z0 {h : Heap} : ∀ {vs : List Value} {xs : List Str},zH prog w h M vs (xs.map .str) → ∃ l : List (Str × Tok),vs = strValues l ∧ l.map (·.1) = xs
 | _,[],r => by cases r; exact ⟨[],rfl,rfl⟩
 | _,x :: xs,r => by
  cases r with
  | cons a r =>
   obtain ⟨t,rfl⟩:=a.str_inv
   obtain ⟨l,rfl,e⟩:=Z0 r
   exact ⟨(x,t) :: l,rfl,by simp [e]⟩
noncomputable def wv (sep : Str) : List Str → Str
 | [x] => x
 | l => Builtin.Str.glued sep l
noncomputable def yG (sep : Str) (xs : List Str) : Bool:=!Builtin.Str.tooLong (xs.toArray.foldl (· + ·.length + sep.length) 0) && decide ((wv sep xs).length ≤ sizeLine)
theorem zG.join (sep : Str) (xs : List Str) (hs : yG sep xs = true) : zG prog w k B (.builtin "str.join") [.str sep,.list (xs.map .str)] (.str (wv sep xs)):=by
 intro A M s E Q vs R X old rs hQ
 obtain ⟨v,u,rfl,r1,r2⟩:=rs.two_inv
 obtain ⟨t,rfl⟩:=r1.str_inv
 obtain ⟨a,us,rfl,p,q⟩:=r2.list_inv
 obtain ⟨l,rfl,e⟩:=Z0 q
 simp only [yG,and_eq_true,not_eq_true',decide_eq_true_eq] at hs
 refine call_meets F.slot_str_join rfl F.entry_str_join (F.args_str_join_2 _ _) (PySem.meets_str_join_list sep t a l (by rw [e]; exact hs.1)) ⟨p.isList, ?_⟩
 subst e
 match l,hs with
 | [p],_ => exact hQ _ _ (zF s) (.str _ _)
 | [],hs => exact ⟨hs.2,hQ _ _ (zL s _) (.str _ _)⟩
 | p :: q :: l,hs => exact ⟨hs.2,hQ _ _ (zL s _) (.str _ _)⟩
theorem yZ {name : Str} {id : String} {b : Builtin} {m : Made} (slot : Slot "str" name id) (entry : entryFor table id = some b) {x : Str} {t : Tok} {vs : List Value} (args : argsOk id ⟨.str x t :: vs,[]⟩) (g : Gives (b ⟨.str x t :: vs,[]⟩) m)
  {s : Shared} {E Q : Value → Shared → Prop} (h : m.post Q s) : wpAny (model prog w) A (call (.builtin id) (.str x t :: vs)) Q E s :=
 call_meets slot rfl entry args g.meets h
theorem zG.startswith (x y : Str) : zG prog w k B (.builtin "str.startswith") [.str x,.str y] (.bool (0 + y.length ≤ x.length && Builtin.Str.subAt x y 0)):=by
 intro A M s E Q vs R X old rs hQ
 obtain ⟨v,u,rfl,r1,r2⟩:=rs.two_inv
 obtain ⟨t,rfl⟩:=r1.str_inv; obtain ⟨t2,rfl⟩:=r2.str_inv
 exact yZ F.slot_str_startswith F.entry_str_startswith (F.args_str_startswith_2 _ _) (PySem.gives_str_startswith x y t t2) (hQ _ _ (zF s) (.bool _))
theorem zG.endswith (x y : Str) : zG prog w k B (.builtin "str.endswith") [.str x,.str y] (.bool (0 + y.length ≤ x.length && Builtin.Str.subAt x y (x.length - y.length))):=by
 intro A M s E Q vs R X old rs hQ
 obtain ⟨v,u,rfl,r1,r2⟩:=rs.two_inv
 obtain ⟨t,rfl⟩:=r1.str_inv; obtain ⟨t2,rfl⟩:=r2.str_inv
 exact yZ F.slot_str_endswith F.entry_str_endswith (F.args_str_endswith_2 _ _) (PySem.gives_str_endswith x y t t2) (hQ _ _ (zF s) (.bool _))
theorem Wy {n : Nat} (h : Builtin.Str.tooLong n = false) : n ≤ sizeLine:=by simpa [Builtin.Str.tooLong] using h
noncomputable def zb (x : Str) : Str:=⟨placed x fun i _ => Unicode.lowerAt x.cps i⟩
noncomputable def ww (x : Str) : Str:=⟨placed x fun i c => if Unicode.isUpper c then Unicode.lowerAt x.cps i else if Unicode.isLower c then Unicode.upperOf c else [c]⟩
theorem zG.lower (x : Str) (hs : Builtin.Str.tooLong (zb x).cps.size = false) : zG prog w k B (.builtin "str.lower") [.str x] (.str (zb x)):=by
 intro A M s E Q vs R X old rs hQ
 obtain ⟨v,rfl,r1⟩:=rs.one_inv
 obtain ⟨t,rfl⟩:=r1.str_inv
 exact yZ F.slot_str_lower F.entry_str_lower (F.args_str_lower_1 _) (PySem.gives_str_lower x t hs) ⟨(Wy hs),hQ _ _ (zL s _) (.str _ _)⟩
theorem zG.swapcase (x : Str) (hs : Builtin.Str.tooLong (ww x).cps.size = false) : zG prog w k B (.builtin "str.swapcase") [.str x] (.str (ww x)):=by
 intro A M s E Q vs R X old rs hQ
 obtain ⟨v,rfl,r1⟩:=rs.one_inv
 obtain ⟨t,rfl⟩:=r1.str_inv
 exact yZ F.slot_str_swapcase F.entry_str_swapcase (F.args_str_swapcase_1 _) (PySem.gives_str_swapcase x t hs) ⟨(Wy hs),hQ _ _ (zL s _) (.str _ _)⟩
theorem Y4 (x y : Str) (i j : Int) (t u v z : Tok) : Gives (Builtin.«str.find» ⟨[.str x t,.str y u,.int i v,.int j z],[]⟩) (.int (match Builtin.Str.occurrences x y (max 0 (if i < 0 then i + x.length else i)).toNat (min (max 0 (if j < 0 then j + x.length else j)).toNat x.length) 1 with | k :: _ => (k : Int) | [] => -1)):=by
 show Gives (match Builtin.Str.occurrences x y (max 0 (if i < 0 then i + x.length else i)).toNat (min (max 0 (if j < 0 then j + x.length else j)).toNat x.length) 1 with | k :: _ => retInt k | [] => (do rule "str.find.not-found"; retInt (-1))) _
 cases Builtin.Str.occurrences x y (max 0 (if i < 0 then i + x.length else i)).toNat (min (max 0 (if j < 0 then j + x.length else j)).toNat x.length) 1 with
 | nil => exact .rule (.of_eq rfl)
 | cons k _ => exact .of_eq rfl
noncomputable def kA (x y : Str) (i j : Int) : Int:=match Builtin.Str.occurrences x y (max 0 (if i < 0 then i + x.length else i)).toNat (min (max 0 (if j < 0 then j + x.length else j)).toNat x.length) 1 with | k :: _ => (k : Int) | [] => -1
theorem zG.find4 (x y : Str) (i j : Int) : zG prog w k B (.builtin "str.find") [.str x,.str y,.int i,.int j] (.int (kA x y i j)):=by
 intro A M s E Q vs R X old rs hQ
 cases rs with | cons r1 rs => cases rs with | cons r2 rs => cases rs with | cons r3 rs => cases rs with | cons r4 rs => cases rs with | nil =>
 obtain ⟨t,rfl⟩:=r1.str_inv; obtain ⟨t2,rfl⟩:=r2.str_inv; obtain ⟨t3,rfl⟩:=r3.int_inv; obtain ⟨t4,rfl⟩:=r4.int_inv
 exact yZ F.slot_str_find F.entry_str_find (F.args_str_find_4 _ _ _ _) (Y4 x y i j t t2 t3 t4) (hQ _ _ (zL s _) (.int _ _))
noncomputable def Wb (prog : Program) (w : World) (k : Nat) (B : Heap) (f : Value) (ds : List D) (d : D) : Prop :=
 ∀ (A : Around) (M : Addr → Prop) (s : Shared) (E : Value → Shared → Prop) (Q : Value → Shared → Prop) (vs : List Value),Rm A k → zS B s.heap → (∀ a,M a → ∃ o,s.heap.get? a = some o) → xK prog w s.heap M vs ds →
  (∀ a s',Keeps s s' → s.heap.get? a = none → zd prog w s'.heap (fun b => M b ∨ b = a) a d → Q (.ref a) s') → wpAny (model prog w) A (call f vs) Q E s
theorem kK.meth {h : Heap} {k : Nat} (S : En prog w B names env h M ρ μ) (R : Rm A k) {o : Expr} {name : Str} {apos pos : Pos} {es : List Expr} {T id : String} {dr d : D} {ds : List D}
   (ho : Ev prog w A h o env (PR prog w M dr)) (hT : tyD dr = some T) (pa : PlainAttrs T) (slot : Slot T name id) (hty : typeOf (.builtin id) = pure (.type "method_descriptor"))
   (hx : yy prog w A h env M es ds) (hbase : attributeBase o name env (eval o env) = eval o env) (hfew : decide (es.length + 0 + 0 < 30) = true) (hline : (apos.endLine == pos.line) = true)
   (hc : Wb prog w k B (.builtin id) (dr :: ds) d) : kK prog w A h (.Call (.Attribute o name apos) es [] pos) env M d:=by
 intro s E Q kx hQ
 refine wpAny_Call_method hbase ?_ hline pa slot hty (ho s E _ kx fun ov s₁ k₁ r => ⟨(wE hT r).1,(wE hT r).2, ?_⟩)
 · rw [hx.few]; exact hfew
 · refine yX hx (kx.trans (ke k₁)) fun vs s₂ k₂ rs => ?_
   have X:=kx.trans ((ke k₁).trans (ke k₂))
   refine hc A M s₂ E Q _ R (S.base.trans X) (fun a m => ?_) (.cons (r.ext (ke k₂)) rs) fun a s' k₃ n c => hQ a s' (zA k₁ (zA k₂ k₃)) (z9 (zA k₁ k₂) n) c
   obtain ⟨o,e⟩:=S.old a m
   exact ⟨o,X _ _ e⟩
theorem Wn {h : Heap} {M : Addr → Prop} : ∀ l : List (Str × Tok),zH prog w h M (strValues l) ((l.map (·.1)).map .str)
 | [] => .nil
 | p :: l => .cons (.str _ _) (Wn l)
noncomputable def zz (x y : Str) : List Str :=
 if (decide (x.length < y.length) || decide (Builtin.Str.strKind x < Builtin.Str.strKind y)) = true then [x]
 else if (Builtin.Str.occurrences x y 0 x.length (x.length + 1)).isEmpty = true then [x]
 else Builtin.Str.partsBetween x (Builtin.Str.occurrences x y 0 x.length (x.length + 1)) y.length
theorem ja : ∀ (n : Nat) (l : List Str),∃ l' : List (Str × Tok),strsFrom n l = strValues l' ∧ l'.map (·.1) = l
 | _,[] => ⟨[],rfl,rfl⟩
 | n,x :: l => by
  obtain ⟨l',e,e2⟩:=ja (n + 1) l
  exact ⟨(x,n) :: l',by rw [strsFrom,e]; rfl,by simp [e2]⟩
theorem Xb {h : Heap} {M : Addr → Prop} {l : List (Str × Tok)} {n : Nat} : zd prog w (h.push { cls:=.type "list",data:=.seq (strValues l).toArray n }) (fun b => M b ∨ b = h.objs.size) h.objs.size (.list ((l.map (·.1)).map .str)) :=
 .list (vs:=strValues l) ⟨n,get?_push_size _ rfl⟩ (Wn l)
theorem Wb.split (x y : Str) (hy : (y.length == 0) = false) (hx : x.length ≤ sizeLine) (hn : (zz x y).length ≤ sizeLine) : Wb prog w k B (.builtin "str.split") [.str x,.str y] (.list ((zz x y).map .str)):=by
 intro A M s E Q vs R X old rs hQ
 obtain ⟨v,u,rfl,r1,r2⟩:=rs.two_inv
 obtain ⟨t,rfl⟩:=r1.str_inv; obtain ⟨t2,rfl⟩:=r2.str_inv
 have one : (zz x y) = [x] → (listOfItself x t) A (wants Q E) s:=fun e => by
   refine hQ _ _ (zM s _ s.toks) (zc _) ?_
   rw [e]; exact Xb (l:=[(x,t)])
 by_cases h1 : (decide (x.length < y.length) || decide (Builtin.Str.strKind x < Builtin.Str.strKind y)) = true
 · exact call_meets F.slot_str_split rfl F.entry_str_split (F.args_str_split_2 _ _) (PySem.meets_str_split_cannot_occur x y t t2 h1) (one (by rw [zz,if_pos h1]))
 by_cases h2 : (Builtin.Str.occurrences x y 0 x.length (x.length + 1)).isEmpty = true
 · exact call_meets F.slot_str_split rfl F.entry_str_split (F.args_str_split_2 _ _) (PySem.meets_str_split_not_found x y t t2 (by simpa using h1) hy h2) (one (by rw [zz,if_neg h1,if_pos h2]))
 · have e : zz x y = Builtin.Str.partsBetween x (Builtin.Str.occurrences x y 0 x.length (x.length + 1)) y.length:=by rw [zz,if_neg h1,if_neg h2]
   rw [e] at hn hQ
   refine call_meets F.slot_str_split rfl F.entry_str_split (F.args_str_split_2 _ _) (PySem.meets_str_split_sep x y t t2 (by simpa using h1) hy (by simpa using h2) hx hn) ?_
   obtain ⟨l',e1,e2⟩:=ja s.toks (Builtin.Str.partsBetween x (Builtin.Str.occurrences x y 0 x.length (x.length + 1)) y.length)
   rw [e1]
   refine hQ _ _ (zM s _ _) (zc _) ?_
   rw [← e2]; exact Xb
theorem zH.erase {h : Heap} {vs : List Value} {ds : List D} (r : zH prog w h M vs ds) (n : Nat) : zH prog w h M (vs.eraseIdx n) (ds.eraseIdx n):=by
 induction vs generalizing ds n with
 | nil => cases r; exact .nil
 | cons u vs ih =>
  cases r with
  | cons y r =>
   cases n with
   | zero => exact r
   | succ n => exact .cons y (ih r n)
theorem kF (S : St prog w B s₀ Own₀ M₀ names env Own M ρ μ s) {x : Str} {xp spos pos : Pos} {ie : Expr} {a : Addr} {xs : List D} {i : Nat} {I : Int} {pre post : List (Addr × D)}
  (hm : (x,RV.adr a) ∈ ρ) (hdb : (x == ("__debug__" : Str)) = false) (hμ : μ = pre ++ (a,.list xs) :: post) (ho : Own a) (hi : Ev prog w A s.heap ie env (PR prog w M (.int I)))
  (hI : seqIndex? I xs.length = some i) (hf : Builtin.List.listFitsIndex I = true) (hz : xs.length ≤ sizeLine)
  (hQ : ∀ s',St prog w B s₀ Own₀ M₀ names env Own M ρ (pre ++ (a,.list (xs.eraseIdx i)) :: post) s' → wpAny (model prog w) A (execs rest env) Q E s') :
  wpAny (model prog w) A (execs (.Delete [.Subscript (.Name x xp) ie spos] pos :: rest) env) Q E s:=by
 refine wpAny_execs_cons (wpAny_Delete (wpAny_deleteEach_cons (wpAny_delete_Subscript ?_)))
 refine (Ev.var S.e hm hdb) s E _ (zS.refl _) fun ov s₂ k₂ r => ?_
 cases r
 refine hi s₂ E _ (ke k₂) fun iv s₃ k₃ ri => ?_
 obtain ⟨t,rfl⟩:=ri.int_inv
 have S₃:=S.step (zA k₂ k₃)
 obtain ⟨us,p,q⟩:=(S₃.e.mem a (.list xs) (by rw [hμ]; simp)).list_inv
 have hl : us.length = xs.length:=q.length
 refine wpAny_delItem_plain p hf (by rw [size_toArray,hl]; exact hI) (fun h' p' sb => wpAny_deleteEach_nil (hQ _ ?_)) (by rw [size_toArray,hl]; exact hz)
 refine S₃.effect1 hμ ho (fun b o n e => (sb.2 b n).trans e) ?_
 have u:=yx sb (S.own a ho)
 refine .list (vs:=us.eraseIdx i) ?_ ((zH.to u q).erase i)
 have e : us.toArray.eraseIdxIfInBounds i = (us.eraseIdx i).toArray:=by
  simp only [Array.eraseIdxIfInBounds]
  split
  · simp
  · rename_i hlt
    rw [List.eraseIdx_of_length_le (by simpa using hlt)]
 rw [e] at p'; exact p'
theorem Vn (S : St prog w B s₀ Own₀ M₀ names env Own M ρ μ s) {t : Expr} {msg : Option Expr} {pos : Pos} {b : Bool} (ht : Tv prog w A s.heap t env b) (hb : b = true)
  (hQ : ∀ s',St prog w B s₀ Own₀ M₀ names env Own M ρ μ s' → wpAny (model prog w) A (execs rest env) Q E s') : wpAny (model prog w) A (execs (.Assert t msg pos :: rest) env) Q E s :=
 wpAny_execs_cons (wpAny_Assert_holds (by subst hb; exact ht s E _ (zS.refl _) fun s₁ k₁ => ⟨rfl,hQ s₁ (S.step k₁)⟩))
theorem Ev.methO {h : Heap} {k : Nat} (S : En prog w B names env h M ρ μ) (R : Rm A k) {o : Expr} {name : Str} {apos pos : Pos} {es : List Expr} {T id : String} {d : D} {ds : List D} {a : Addr} {ob : Obj}
   (ho : Ev prog w A h o env (fun _ u => u = .ref a)) (hB : B.get? a = some ob) (hT : ob.cls = .type T) (hd : ob.dict = none) (pa : PlainAttrs T) (slot : Slot T name id) (hty : typeOf (.builtin id) = pure (.type "method_descriptor"))
   (hx : yy prog w A h env M es ds) (hbase : attributeBase o name env (eval o env) = eval o env) (hfew : decide (es.length + 0 + 0 < 30) = true) (hline : (apos.endLine == pos.line) = true)
   (hc : ∀ (A : Around) (M : Addr → Prop) (s : Shared) (E : Value → Shared → Prop) (Q : Value → Shared → Prop) (vs : List Value),Rm A k → zS B s.heap → (∀ a,M a → ∃ o,s.heap.get? a = some o) → xK prog w s.heap M vs ds →
    (∀ v s',Keeps s s' → Rp prog w s'.heap M v d → Q v s') → wpAny (model prog w) A (PySem.call (.builtin id) (.ref a :: vs)) Q E s) : Ev prog w A h (.Call (.Attribute o name apos) es [] pos) env (PS prog w M d):=by
 intro s E Q kx hQ
 refine wpAny_Call_method hbase ?_ hline pa slot hty (ho s E _ kx fun ov s₁ k₁ e => ?_)
 · rw [hx.few]; exact hfew
 subst e
 have hob : s₁.heap.get? a = some ob:=ke k₁ _ _ (kx _ _ (S.base _ _ hB))
 refine ⟨⟨_,hob,hT⟩,fun b e => by cases e; exact ⟨_,hob,hd⟩, ?_⟩
 refine yX hx (kx.trans (ke k₁)) fun vs s₂ k₂ rs => ?_
 have X:=kx.trans ((ke k₁).trans (ke k₂))
 refine hc A M s₂ E Q _ R (S.base.trans X) (fun a m => ?_) rs fun v s' k₃ r => hQ v s' (zA k₁ (zA k₂ k₃)) r
 obtain ⟨o,e⟩:=S.old a m
 exact ⟨o,X _ _ e⟩
noncomputable def inS (x y : Str) : Bool:=!(Builtin.Str.occurrences y x 0 y.length 1).isEmpty
theorem zN.notInS (x y : Str) : zN prog w .NotIn (.str x) (.str y) (!Mine.inS x y):=by
 intro A M s E Q a b hu ra rb hQ
 obtain ⟨t,rfl⟩:=ra.str_inv; obtain ⟨u,rfl⟩:=rb.str_inv
 exact PyProof.Rows.notIn_str (hQ _ (zF s))
theorem zN.eqS (x y : Str) : zN prog w .Eq (.str x) (.str y) (x == y):=by
 intro A M s E Q a b hu ra rb hQ
 obtain ⟨t,rfl⟩:=ra.str_inv; obtain ⟨u,rfl⟩:=rb.str_inv
 exact PyProof.Rows.eq_str (hQ _ (zF s))
theorem zN.neS (x y : Str) : zN prog w .NotEq (.str x) (.str y) (x != y):=by
 intro A M s E Q a b hu ra rb hQ
 obtain ⟨t,rfl⟩:=ra.str_inv; obtain ⟨u,rfl⟩:=rb.str_inv
 exact PyProof.Rows.ne_str (hQ _ (zF s))
theorem zN.ge (x y : Int) : zN prog w .GtE (.int x) (.int y) (decide (y ≤ x)):=by
 intro A M s E Q a b hu ra rb hQ
 obtain ⟨t,rfl⟩:=ra.int_inv; obtain ⟨u,rfl⟩:=rb.int_inv
 exact P.ge_int (hQ _ (zF s))
theorem jN {e : Expr} {pos : Pos} {d r : D} {rest : List Stmt} {Q : Flow → Shared → Prop} (S : St prog w B s₀ Own₀ M₀ names env Own M ρ μ s) (hv : Ev prog w A s.heap e env (PS prog w M d)) (he : d = r)
  (hQ : ∀ v s',xJ prog w B s₀ Own₀ M₀ names env r (.ret v) s' → Q (.ret v) s') : wpAny (model prog w) A (execs (.Return (some e) pos :: rest) env) Q E s :=
 xO S hv fun v s' S' x => hQ v s' (xJ.to he (xJ.mk S' x))
theorem Ev.itemNeg {value slice : Expr} {pos : Pos} {xs : List D} {i : Int} {d : D}
  (hv : Ev prog w A h value env (PR prog w M (.list xs))) (hi : Ev prog w A h slice env (PR prog w M (.int i))) (h0 : i < 0) (h1 : -(xs.length : Int) ≤ i) (h2 : -(2 ^ 63) ≤ i) (hd : xs[(i + xs.length).toNat]? = some d) :
  Ev prog w A h (.Subscript value slice pos) env (PS prog w M d):=by
 intro s E Q k hQ
 refine Subscript_ (hv s E _ k fun o s₁ k₁ ro => hi s₁ E _ (k.trans (ke k₁)) fun iv s₂ k₂ ri => ?_)
 obtain ⟨t,rfl⟩:=ri.int_inv
 obtain ⟨a,vs,rfl,p,q⟩:=(ro.ext (ke k₂)).list_inv
 obtain ⟨v,hv,rv⟩:=q.get hd
 have hl:=q.length
 obtain ⟨ops,hs⟩:=zx slice (.ref a) (.int i t)
 exact tail_any p.isList.typeIs slot_list_getitem.lookup (wpAny_getItem_list_neg p.isList h0 (by rw [size_toArray,hl]; exact h1) h2 (by rw [size_toArray,hl]; simpa using hv) (hQ v s₂ (zA k₁ k₂) rv)) hs
theorem JH {x : Str} {r : RV} {l : List (Str × RV)} (h : (l.all fun p => p.1 != x) = true) (m : (x,r) ∈ l) : False:=by
 have:=all_eq_true.mp h _ m
 simp at this
theorem KX {α : Type} {f : α → Bool} {x : α} {l : List α} (h : x ∈ l) (hf : f x = true) : x ∈ l.filter f:=mem_filter.mpr ⟨h,hf⟩
theorem Ev.globD {mg mb : Str → Option Value} (G : Gl B mg mb) (S : En prog w B names env h M ρ μ) {x : Str} {v : Value} {d : D} {p : Pos}
  (hx : names.lookup x = some .globalImplicit) (hv : mg x = some v) (hd : (x == ("__debug__" : Str)) = false) (r : ∀ h M,Rp prog w h M v d) : Ev prog w A h (.Name x p) env (PS prog w M d) :=
 (Ev.glob G S hx (.inl hv) hd).mono fun h v e => by subst e; exact r h M
theorem St.freeze1 {a : Addr} {x : Str} {xs : List D} (S : St prog w B s₀ Own₀ M₀ names env (fun b => Own b ∨ b = a) (fun b => M b ∨ b = a) ρ ((a,.list xs) :: μ) s) (hx : (x,.adr a) ∈ ρ) (na : ¬ M a) (hO : ∀ b,Own b → M b) (hm : ∀ b,M₀ b → M b) (ho : ∀ b,Own₀ b → Own b) :
  St prog w B s₀ Own₀ M₀ names env Own M ((x,.dat (.list xs)) :: ρ) μ s :=
 S.freeze hx (.head _) (fun b => ⟨fun o => ⟨.inl o,fun q => na (hO a (q ▸ o))⟩,fun o => o.1.resolve_right o.2⟩) (fun b => ⟨fun o => ⟨.inl o,fun q => na (q ▸ o)⟩,fun o => o.1.resolve_right o.2⟩)
  (fun o => na (hO a (ho a o))) (fun m => na (hm a m)) (fun p hp => .tail _ hp) (by have:=S.nodup; simp only [map_cons,nodup_cons] at this; exact this.2) (fun d hd => by have:=S.nodup; simp only [map_cons,nodup_cons] at this; exact this.1 (mem_map.mpr ⟨_,hd,rfl⟩))
noncomputable def wP (prog : Program) (w : World) (k : Nat) (B : Heap) (M₀ : Addr → Prop) (f : Addr) (xs : List D) {τ : Type} (P : τ → Prop) (μk : τ → List (Addr × D)) (step : τ → D → τ × D) : Prop :=
 ∀ (A : Around) (M : Addr → Prop) (s : Shared) (E Q : Value → Shared → Prop) (c : τ) (d : D) (v : Value),Rm A k → P c → zS B s.heap → (∀ a o,M a → B.get? a = some o → M₀ a) → (∀ a,M₀ a → M a) → (∀ a,M a → ∃ o,s.heap.get? a = some o) → d ∈ xs → Rp prog w s.heap M v d →
  (∀ a x,(a,x) ∈ μk c → zd prog w s.heap M a x) →
  (∀ r s',Xj ((μk c).map (·.1)) s s' → (∀ a x,(a,x) ∈ μk (step c d).1 → zd prog w s'.heap M a x) → Rp prog w s'.heap M r (step c d).2 → Q r s') → wpAny (model prog w) A (call (.ref f) [v]) Q E s
theorem Q0 {t : Expr} {body orelse : List Stmt} {pos : Pos} {b : Bool} {μ' : List (Addr × D)} (S : St prog w B s₀ Own₀ M₀ names env Own M ρ μ s) (ht : ∀ Q' : Bool → Shared → Prop,(∀ s',St prog w B s₀ Own₀ M₀ names env Own M ρ μ' s' → Q' b s') → wpAny (model prog w) A (isTrue t env (eval t env)) Q' E s)
  (k : ∀ s',St prog w B s₀ Own₀ M₀ names env Own M ρ μ' s' → wpAny (model prog w) A (execs (if b then body else orelse) env) (fun f s₂ => match f with | .next => wpAny (model prog w) A (execs rest env) Q E s₂ | f => Q f s₂) E s') :
  wpAny (model prog w) A (execs (.If t body orelse pos :: rest) env) Q E s:=by
 refine wpAny_execs_cons (wpAny_If (ht _ fun s₁ S₁ => ?_))
 have:=k s₁ S₁
 cases b <;> exact this
theorem Jd {τ : Type} {P : τ → Prop} {μk : τ → List (Addr × D)} {step : τ → D → τ × D} {f : Addr} {fo : Obj} {fd : FuncData} {xs : List D} {μa : List (Addr × D)} {c : τ} {M₁ : Addr → Prop} (S : St prog w B s₀ Own₀ M₀ names env Own M ρ (μa ++ μk c) s) (R : Rm A k)
   {x : Str} {xp pos : Pos} {e : Expr} {d : D} (hx : (x,RV.dat (.ob f fo)) ∈ ρ) (hdb : (x == ("__debug__" : Str)) = false) (hfd : fo.data = .func fd) (hst : ∀ rest,starEach (e :: rest) env = (false,eval e env) :: starEach rest env)
   (he : Ev prog w A s.heap e env (PS prog w M d)) (hd : d ∈ xs) (K : wP prog w k B M₁ f xs P μk step) (hP : P c) (hM : ∀ a o,M a → B.get? a = some o → M₁ a) (hM₁ : ∀ a,M₁ a → M a) (hO : ∀ a x,(a,x) ∈ μk c → Own a)
   (hfst : ∀ c c',(μk c).map (·.1) = (μk c').map (·.1)) {Q : Value → Shared → Prop}
   (hQ : ∀ v s',St prog w B s₀ Own₀ M₀ names env Own M ρ (μa ++ μk (step c d).1) s' → Rp prog w s'.heap M v (step c d).2 → (∀ a o,¬ M a → s.heap.get? a = some o → s'.heap.get? a = some o ∧ ¬ M a) → Q v s') : wpAny (model prog w) A (eval (.Call (.Name x xp) [e] [] pos) env) Q E s:=by
 refine wpAny_Call_Name_kw (Ev.var S.e hx hdb s E _ (zS.refl _) fun u s₁ k₁ r => ?_)
 obtain ⟨rfl,ef,mf⟩:=Rp.ob_inv r
 have hx1 : Zr prog w A s.heap env M [e] [d]:=.cons he .nil hst
 refine callWith_of (P:=fun h => h.get? f = some fo) (by show ((backTo pos (starEach [e] env)).any (·.1) || false) = false; rw [hx1.rd.noStar]; rfl) (fun h' X => ⟨.frame,.inl rfl, ?_⟩) (wS hx1 (ke k₁) fun vs s₂ k₂ rs => ?_)
 · refine (Looks.ld (part:=none) X).andThen ?_
   rw [hfd]
   exact Looks.now
 · refine ⟨ke k₂ _ _ ef, ?_⟩
   have k12:=zA k₁ k₂
   have S₂:=S.step k12
   cases rs with | cons rv rs => cases rs with | nil =>
   refine K A M s₂ E Q c d _ R hP S₂.e.base hM hM₁ S₂.e.old hd rv (fun a y hm => S₂.e.mem a y (mem_append_right _ hm)) fun r' s' ef' hc rr => hQ r' s' ?_ rr ?_
   all_goals obtain ⟨h',tk,rfl,kk⟩:=ef'
   rotate_left
   · intro a o m e
     refine ⟨kk a o (fun z => ?_) (ke k12 a o e),m⟩
     obtain ⟨⟨a',y⟩,hm,rfl⟩:=mem_map.mp z
     exact m (S.own a' (hO a' y hm))
   have hnd:=S₂.nodup
   rw [map_append,nodup_append] at hnd
   refine S₂.effect (wr:=(μk c).map (·.1)) (fun a ha => ?_) kk (fun a y hm => ?_) (by rw [map_append,map_append,hfst c (step c d).1])
   · obtain ⟨⟨a',y⟩,hm,rfl⟩:=mem_map.mp ha
     have : a' ∈ (μk (step c d).1).map (·.1):=by rw [← hfst c]; exact ha
     obtain ⟨⟨a'',y'⟩,hm',e'⟩:=mem_map.mp this
     dsimp only at e'
     subst e'
     exact ⟨hO _ y hm,y,y',mem_append_right _ hm,hc _ y' hm'⟩
   · rcases mem_append.mp hm with hm | hm
     · exact .inl ⟨fun z => hnd.2.2 a (mem_map.mpr ⟨_,hm,rfl⟩) a z rfl,mem_append_left _ hm⟩
     · exact .inr ⟨by rw [hfst c (step c d).1]; exact mem_map.mpr ⟨_,hm,rfl⟩,hc a y hm⟩
theorem Gl.ext {mg mb : Str → Option Value} (G : Gl B mg mb) (X : zS B B') : Gl B' mg mb:=⟨G.g.keeps X,G.b.keeps X,G.lim.keeps X⟩
theorem zi {c : Value} {q : Str} (x : B.CodeRec c q) (X : zS B B') : B'.CodeRec c q:=by
 obtain ⟨c,oc,us,t,e1,e2,e3,e4⟩:=x
 exact ⟨c,oc,us,t,e1,X _ _ e2,e3,e4⟩
theorem zl.ext {mg : Str → Option Value} {name : Str} {d : Stmt} {f : Addr} {fd : FuncData} (H : zl B mg name d f fd) (X : zS B B') : zl B' mg name d f fd :=
 ⟨H.g,by obtain ⟨o,e,q⟩:=H.get; exact ⟨o,X _ _ e,q⟩,zi H.code X,H.ok,H.args,H.body,H.scope,H.clo⟩
theorem xg (wr : List Addr) (X : zS B h) (hw : ∀ a ∈ wr,B.get? a = none) : zS B (hideAll h wr):=fun a o e => hideAll_get _ (X a o e) fun z => by rw [hw a z] at e; cases e
theorem yb (wr : List Addr) : zS (hideAll h wr) h:=fun a o e => of_hideAll _ e
theorem wU (wr : List Addr) {a : Addr} (z : a ∈ wr) : (hideAll h wr).get? a = none:=hideAll_none _ z
structure ZN (fd : FuncData) (params : Arguments) (body : FuncBody) (scope : Scope) (qual : Str) (c' : Addr) (cl : List (Str × Addr)) : Prop where
 glob : fd.globals = mainGlobals
 bl : fd.builtins = builtinsNs
 par : fd.params = params
 bod : fd.body = body
 sco : fd.scope = scope
 clo : fd.closure = cl
 code : fd.code = .ref c'
 qn : fd.qualname = qual
 dfl : fd.defaults = .none
 kwd : fd.kwdefaults = .none
noncomputable def Bm (B : Heap) (mg : Str → Option Value) : Prop:=∃ bm o,mg "__builtins__" = some (.ref bm) ∧ bm ≠ builtinsNs ∧ bm ≠ mainGlobals ∧ B.get? bm = some o ∧ o.cls = .type "module" ∧ o.dict = some builtinsNs ∧ o.data = .plain
noncomputable def jW (oc : Obj) (q : Str) : Prop:=∃ vs t,oc.data = .fields vs ∧ vs[1]? = some (.str q t)
noncomputable def z6 (qs : List (Pos × Str)) (ps : Array Value) (os : List (Addr × Obj)) : Prop :=
 TriplesOk ps.toList ∧ ∀ q ∈ qs,codeAmong q.1 ps.toList = none ∨ ∃ c' oc,codeAmong q.1 ps.toList = some (.ref c') ∧ (c',oc) ∈ os ∧ jW oc q.2
noncomputable def xG (qs : List (Pos × Str)) : Bool:=qs.all fun p => qs.all fun q => !(p.1.line == q.1.line && p.1.col == q.1.col) || p.2 == q.2
theorem xy (pos : Pos) (a b : Int) (t u : Tok) (c : Value) (l : List Value) : codeAmong pos (.int a t :: .int b u :: c :: l) = if (a == pos.line && b == pos.col) = true then some c else codeAmong pos l:=rfl
theorem jp {pos : Pos} {a b : Int} {c : Value} (l : List Value) (h : TriplesOk l) (hn : (a == pos.line && b == pos.col) = false) : codeAmong pos (l ++ [rawInt a,rawInt b,c]) = codeAmong pos l:=by
 fun_induction TriplesOk l with
 | case1 => exact (xy pos a b _ _ c []).trans (if_neg (by rw [hn]; decide))
 | case2 a' t b' u x rest ih =>
  refine (xy pos a' b' t u x _).trans ((?_ : _ = _).trans (xy pos a' b' t u x rest).symm)
  rw [show rest.append [rawInt a,rawInt b,c] = rest ++ [rawInt a,rawInt b,c] from rfl,ih h]
 | case3 l h1 h2 => exact h.elim
theorem z6.nil (qs : List (Pos × Str)) : z6 qs #[] []:=⟨trivial,fun _ _ => .inl rfl⟩
theorem z6.more {qs : List (Pos × Str)} {ps : Array Value} {os : List (Addr × Obj)} (T : z6 qs ps os) (ha : xG qs = true) {pos : Pos} {qual : Str} (hq : (pos,qual) ∈ qs) (hn : codeAmong pos ps.toList = none) {c' : Addr} {oc : Obj} (hc : jW oc qual) :
   z6 qs (ps ++ #[rawInt pos.line,rawInt pos.col,.ref c']) ((c',oc) :: os):=by
 refine ⟨by rw [toList_append]; exact TriplesOk_snoc _ _ _ _ T.1,fun q hq' => ?_⟩
 rw [toList_append]
 by_cases hs : (((pos.line : Int) == q.1.line) && ((pos.col : Int) == q.1.col)) = true
 · have h1:=all_eq_true.mp (all_eq_true.mp ha _ hq) _ hq'
   have hl : pos.line = q.1.line ∧ pos.col = q.1.col:=by
     simp only [and_eq_true,beq_iff_eq] at hs; omega
   have hqq : qual = q.2:=by simpa [hl.1,hl.2] using h1
   refine .inr ⟨c',oc, ?_,.head _,hqq ▸ hc⟩
   have e:=codeAmong_snoc (pos:=q.1) (c:=.ref c') ps.toList T.1 ?_
   · rw [hl.1,hl.2]; exact e
   · have : ∀ l,codeAmong q.1 l = codeAmong pos l:=fun l => by
      fun_induction codeAmong pos l with
      | case1 a t b u c rest h => simp only [codeAmong]; rw [← hl.1,← hl.2,if_pos h]
      | case2 a t b u c rest h ih => simp only [codeAmong]; rw [← hl.1,← hl.2,if_neg h]; exact ih
      | case3 l h => rw [codeAmong]; exact h
     rw [this]; exact hn
 · have e:=jp (pos:=q.1) (a:=(pos.line : Int)) (b:=(pos.col : Int)) (c:=.ref c') ps.toList T.1 (by simpa using hs)
   rcases T.2 q hq' with h | ⟨c₂,o₂,h1,h2,h3⟩
   · exact .inl (e.trans h)
   · exact .inr ⟨c₂,o₂,e.trans h1,.tail _ h2,h3⟩
structure Clo (prog : Program) (w : World) (h : Heap) (M : Addr → Prop) (scope : Scope) (ρ : List (Str × RV)) (cl : List (Str × Addr)) : Prop where
 has : ∀ x c,cl.lookup x = some c → ∃ v,h.IsCell c v
 cap : ∀ x r,(x,r) ∈ xa scope.names ρ → ∃ c v,cl.lookup x = some c ∧ h.IsCell c (some v) ∧ zt prog w h M v r ∧ (x == ("__classdict__" : Str)) = false
 free : ∀ x,(x,NameKind.free) ∈ scope.names → (cl.lookup x).isSome = true
 apart : ∀ x y c,cl.lookup x = some c → cl.lookup y = some c → x = y
theorem X6 {scope : Scope} (S : En prog w B names env h M ρ μ) (hc : yQ names scope = true) {cl : List (Str × Addr)} (h1 : ∀ x c,cl.lookup x = some c → env.cells.lookup x = some c) (h2 : ∀ x,(x,NameKind.free) ∈ scope.names → (cl.lookup x).isSome = true) : Clo prog w h M scope ρ cl:=by
 have O:=vh hc
 refine ⟨fun x c e => S.celled x c (h1 x c e),fun x r hm => ?_,h2,fun x y c hx hy => S.n.apart x y c (h1 x c hx) (h1 y c hy)⟩
 have hm2:=mem_filter.mp hm
 have hfree : scope.names.lookup x = some .free:=by simpa using hm2.2
 obtain ⟨v,hv,hr⟩:=S.vars x r hm2.1
 have hmf:=mem_of_lookup hfree
 obtain ⟨ho,hcd⟩:=O.free x hmf
 rcases hv with ⟨a,_⟩ | ⟨_,c,e,q⟩
 · exfalso
   rcases ho with ho | ho
   · rw [S.n.ce x ho] at a; cases a
   · rcases S.n.fr x ho with q | q <;> (rw [q] at a; cases a)
 · obtain ⟨c',hc'⟩:=isSome_iff_exists.mp (h2 x hmf)
   have:=h1 x c' hc'
   rw [e] at this; cases this
   exact ⟨c,v,hc',q,hr,hcd⟩
noncomputable def vg (scope : Scope) : Bool:=scope.kind == .function && !scope.isCoroutine && !scope.isGenerator && (scope.names.all fun p => p.2 != .cell || scope.names.lookup p.1 == some .cell)
theorem VQ {fd : FuncData} {params : Arguments} {body : FuncBody} {scope : Scope} {qual : Str} {c' : Addr} {cl : List (Str × Addr)} (F : ZN fd params body scope qual c' cl) (hf : vg scope = true) (h2 : ∀ x,(x,NameKind.free) ∈ scope.names → (cl.lookup x).isSome = true) (h3 : ∀ x y c,cl.lookup x = some c → cl.lookup y = some c → x = y) : j4 fd:=by
 simp only [vg,and_eq_true] at hf
 obtain ⟨⟨⟨f1,f2⟩,f3⟩,f4⟩:=hf
 refine ⟨F.glob,F.bl,by rw [F.sco]; simpa using f1,by rw [F.sco]; simpa using f2,by rw [F.sco]; simpa using f3,fun x hx => ?_,fun x hx => ?_,fun x y c e e' => ?_⟩
 · rw [F.clo]; rw [F.sco] at hx; exact h2 x hx
 · rw [F.sco] at hx ⊢
   have:=all_eq_true.mp f4 _ hx; simpa using this
 · rw [F.clo] at e e'; exact h3 x y c e e'
theorem zAq {pre post : List (Addr × D)} {P : Addr} {ps ps' : Array Value} {os : List (Addr × Obj)} (S : St prog w B s₀ Own₀ M₀ names env Own M ρ (pre ++ (P,.obs P (tabObj ps) os) :: post) s) (ho : Own P)
   {h' : Heap} {tk : Nat} {c' : Addr} {qual : Str} {fo : Obj} (hx : Heap.ExtBut P s.heap h') (hge : s.heap.objs.size ≤ c') (hlt : c' < h'.objs.size) (hrec : h'.CodeRec (.ref c') qual) (htb : h'.get? P = some (tabObj ps')) (hfr : fo.isFreed = false:=by rfl) :
   ∃ oc,jW oc qual ∧ St prog w B s₀ Own₀ M₀ names env Own M ρ (pre ++ (P,.obs P (tabObj ps') ((c',oc) :: os)) :: post) { s with heap:=h'.push fo,toks:=tk } ∧ Rp prog w (h'.push fo) M (.ref h'.objs.size) (.obs h'.objs.size fo [(c',oc)]):=by
 obtain ⟨c₂,oc,vs,t,e2,hoc,hd,hv⟩:=hrec
 cases e2
 have hnM : ∀ b,s.heap.objs.size ≤ b → ¬ M b:=fun b hb m => by obtain ⟨o,e⟩:=S.e.old b m; exact absurd (lt_size e) (Nat.not_lt.mpr hb)
 have hc0:=S.e.mem P _ (mem_append_right _ (.head _))
 refine ⟨oc,⟨vs,t,hd,hv⟩,S.effect1 rfl ho (fun b o n e => get?_push_of_some _ (hx b o n e)) (.tab (get?_push_of_some _ htb) fun p hp => ?_),.obs (get?_push_size _ hfr) (hnM _ (le_trans hge (le_of_lt hlt))) fun p hp => ?_⟩
 · rcases mem_cons.mp hp with rfl | hp
   · exact ⟨get?_push_of_some _ hoc,hnM _ hge⟩
   · cases hc0 with
     | tab _ r =>
      refine ⟨get?_push_of_some _ (hx _ _ (fun q => (r p hp).2 (q ▸ S.own P ho)) (r p hp).1),(r p hp).2⟩
 · cases mem_singleton.mp hp
   exact ⟨get?_push_of_some _ hoc,hnM _ hge⟩
theorem zAO {pre post : List (Addr × D)} {P : Addr} {ps : Array Value} {os : List (Addr × Obj)} (S : St prog w B s₀ Own₀ M₀ names env Own M ρ (pre ++ (P,.obs P (tabObj ps) os) :: post) s)
  {h' : Heap} {tk : Nat} {c' : Addr} {oc : Obj} {fo : Obj} (hx : zS s.heap h') (hge : s.heap.objs.size ≤ h'.objs.size) (hm : (c',oc) ∈ os) (hfr : fo.isFreed = false:=by rfl) :
  St prog w B s₀ Own₀ M₀ names env Own M ρ (pre ++ (P,.obs P (tabObj ps) os) :: post) { s with heap:=h'.push fo,toks:=tk } ∧ Rp prog w (h'.push fo) M (.ref h'.objs.size) (.obs h'.objs.size fo [(c',oc)]):=by
 have kk : Keeps s { s with heap:=h'.push fo,toks:=tk }:=⟨h'.push fo,tk,rfl,fun a o e => get?_push_of_some _ (hx a o e)⟩
 have hnM : ∀ b,s.heap.objs.size ≤ b → ¬ M b:=fun b hb m => by obtain ⟨o,e⟩:=S.e.old b m; exact absurd (lt_size e) (Nat.not_lt.mpr hb)
 have hc0:=S.e.mem P _ (mem_append_right _ (.head _))
 refine ⟨S.step kk,.obs (get?_push_size _ hfr) (hnM _ hge) fun p hp => ?_⟩
 cases mem_singleton.mp hp
 cases hc0 with
 | tab _ r => exact ⟨get?_push_of_some _ (hx _ _ (r _ hm).1),(r _ hm).2⟩
structure Tb (B : Heap) (mg : Str → Option Value) (env : Env) (P : Addr) (qs : List (Pos × Str)) : Prop where
 gl : ∃ mb,Gl B mg mb
 bm : Bm B mg
 code : ∃ c,env.code = .ref c ∧ CodeHd B c P
 ap : xG qs = true
theorem Tb.ne {mg : Str → Option Value} {P : Addr} {qs : List (Pos × Str)} (T : Tb B mg env P qs) (S : St prog w B s₀ Own₀ M₀ names env Own M ρ μ s) (ho : Own P) : mainGlobals ≠ P ∧ s.heap.BuiltinsAt mg P:=by
 obtain ⟨mb,G⟩:=T.gl
 obtain ⟨bm,o,b1,b2,b3,b4,b5,b6,b7⟩:=T.bm
 have hn:=S.base P ho
 refine ⟨fun q => ?_,bm,o,b1,b2,b3,fun q => ?_,S.e.base _ _ b4,b5,b6,b7⟩
 · obtain ⟨o,es,ep,e,_⟩:=G.g
   rw [q,hn] at e; cases e
 · rw [q,hn] at b4; cases b4
theorem Qi {mg : Str → Option Value} {P : Addr} {qs : List (Pos × Str)} {pre post : List (Addr × D)} {ps : Array Value} {os : List (Addr × Obj)} (T : Tb B mg env P qs) (S : St prog w B s₀ Own₀ M₀ names env Own M ρ (pre ++ (P,.obs P (tabObj ps) os) :: post) s) (ho : Own P)
   {params : Arguments} {body : Expr} {scope : Scope} {pos : Pos} (hT : z6 qs ps os) (hq : (pos,env.qual ++ "<lambda>") ∈ qs) (hdef : defaultsOf params env = ([],[])) (hc : yQ names scope = true) {Q : Value → Shared → Prop}
   (hQ : ∀ f fo fd c' oc cl ps' os' s',fo.data = .func fd → ZN fd params (.expr body) scope (env.qual ++ "<lambda>") c' cl → jW oc (env.qual ++ "<lambda>") → z6 qs ps' os' → Clo prog w s'.heap M scope ρ cl →
    St prog w B s₀ Own₀ M₀ names env Own M ρ (pre ++ (P,.obs P (tabObj ps') os') :: post) s' → Rp prog w s'.heap M (.ref f) (.obs f fo [(c',oc)]) → Xj [P] s s' → Q (.ref f) s') :
   wpAny (model prog w) A (eval (.Lambda params body scope pos) env) Q E s:=by
 obtain ⟨cl,hcl,h1,h2⟩:=wN S.e.n hc
 obtain ⟨hgP,hb⟩:=T.ne S ho
 obtain ⟨mb,G⟩:=T.gl
 obtain ⟨c,hcode,C⟩:=T.code
 have hPt : s.heap.get? P = some (tabObj ps):=by
   have:=S.e.mem P _ (mem_append_right _ (.head _))
   cases this with | tab p _ => exact p
 have hg:=G.g.keeps S.e.base
 refine kla_eval hdef ?_
 rcases hT.2 _ hq with hn | ⟨c',oc,hf,hm,hco⟩
 · refine kla_makeFunction (mg:=mg) hcl S.e.n.glob hg hcode (C.keeps S.e.base) hPt hT.1 hn hgP hb fun c' ctv h' tk hx hge hlt hrec htb => ?_
   obtain ⟨oc,hco,S',r⟩:=zAq S ho (tk:=tk) (fo:=kla_obj "<lambda>" (env.qual ++ "<lambda>") params body scope cl ((mg "__name__").getD .none) c' ctv) hx hge hlt hrec htb
   refine hQ _ _ _ c' oc cl _ _ _ rfl ⟨rfl,rfl,rfl,rfl,rfl,rfl,rfl,rfl,rfl,rfl⟩ hco (hT.more T.ap hq hn hco) (X6 S'.e hc h1 h2) S' r ⟨_,_,rfl,fun a o n e => get?_push_of_some _ (hx a o (by simpa using n) e)⟩
 · refine kla_makeFunctionHit (mg:=mg) hcl S.e.n.glob hg hcode (C.keeps S.e.base) hPt hT.1 hf hb fun ctv h' tk hx hsz => ?_
   obtain ⟨S',r⟩:=zAO S (tk:=tk) (fo:=kla_obj "<lambda>" (env.qual ++ "<lambda>") params body scope cl ((mg "__name__").getD .none) c' ctv) hx hsz hm
   have kx : zS s.heap (h'.push (kla_obj "<lambda>" (env.qual ++ "<lambda>") params body scope cl ((mg "__name__").getD .none) c' ctv)):=fun a o e => get?_push_of_some _ (hx a o e)
   refine hQ _ _ _ c' oc cl _ _ _ rfl ⟨rfl,rfl,rfl,rfl,rfl,rfl,rfl,rfl,rfl,rfl⟩ hco hT (X6 S'.e hc h1 h2) S' r ⟨_,_,rfl,fun a o n e => kx a o e⟩
inductive qy (prog : Program) (w : World) (A : Around) (h : Heap) (env : Env) (M : Addr → Prop) : List Expr → List RV → Prop
 | nil : qy prog w A h env M [] []
 | cons {e : Expr} {es : List Expr} {r : RV} {rs : List RV} : Ev prog w A h e env (fun h' v => zt prog w h' M v r) → qy prog w A h env M es rs → (∀ rest,starEach (e :: rest) env = (false,eval e env) :: starEach rest env) → qy prog w A h env M (e :: es) (r :: rs)
theorem qy.noStar {es : List Expr} {rs : List RV} {pos : Pos} (x : qy prog w A h env M es rs) : (backTo pos (starEach es env)).any (·.1) = false:=by
 induction x with
 | nil => rfl
 | cons _ _ hs ih =>
  rw [hs]
  show (false || _) = false
  rw [Bool.false_or]; exact ih
theorem vi {es : List Expr} {rs : List RV} {pos : Pos} (x : qy prog w A h env M es rs) : ∀ (s : Shared) (E : Value → Shared → Prop) (Q : List Value → Shared → Prop),zS h s.heap →
  (∀ vs s',Keeps s s' → zP prog w s'.heap M vs rs → Q vs s') → wpAny (model prog w) A (spliced (backTo pos (starEach es env))) Q E s:=by
 induction x with
 | nil => intro s E Q k hQ; exact spliced_nil (hQ [] s (zF s) .nil)
 | @cons e es d ds hv _ hs ih =>
  intro s E Q k hQ
  rw [hs]
  show wpAny _ _ (spliced ((false,eval e env) :: backTo pos (starEach es env))) Q E s
  refine spliced_cons (hv s E _ k fun v s₁ k₁ r => ?_)
  exact ih s₁ E _ (k.trans (ke k₁)) fun vs s₂ k₂ rs => hQ _ s₂ (zA k₁ k₂) (.cons (r.ext (ke k₂)) rs)
theorem vm {f : Value} {es : List Expr} {rs : List RV} {pos : Pos} (x : qy prog w A h env M es rs) {s : Shared} {Q : Args → Shared → Prop} (k : zS h s.heap)
  (hQ : ∀ vs s',Keeps s s' → zP prog w s'.heap M vs rs → Q ⟨vs,[]⟩ s') : wpAny (model prog w) A (evalArgs f true (backTo pos (starEach es env)) []) Q E s:=by
 have key:=vi (pos:=pos) x s E (fun vs s' => Q ⟨vs,[]⟩ s') k hQ
 cases x with
 | nil => exact evalArgs_nil3 (hQ [] s (zF s) .nil)
 | cons hv _ hs =>
  rw [hs] at key ⊢
  exact evalArgs_plain key
theorem wh {fx : Str} {fp pos : Pos} {f : Value} {es : List Expr} {rs : List RV} (S : En prog w B names env s.heap M ρ μ) (hf : Ev prog w A s.heap (.Name fx fp) env (fun _ u => u = f)) (K : ji B f) (hx : qy prog w A s.heap env M es rs) {Q : Value → Shared → Prop}
  (hQ : ∀ vs s',Keeps s s' → zP prog w s'.heap M vs rs → wpAny (model prog w) A (PySem.call f vs) Q E s') : wpAny (model prog w) A (eval (.Call (.Name fx fp) es [] pos) env) Q E s:=by
 refine wpAny_Call_Name_kw (hf s E _ (zS.refl _) fun u s₁ k₁ e => ?_)
 subst e
 refine callWith_of (P:=zS B) (by show ((backTo pos (starEach es env)).any (·.1) || false) = false; rw [hx.noStar]; rfl) (fun h' X => ya K h' X) (vm hx (ke k₁) fun vs s₂ k₂ rs => ?_)
 exact ⟨S.base.trans (ke (zA k₁ k₂)),hQ vs s₂ (zA k₁ k₂) rs⟩
theorem jO {fx kn : Str} {fp pos kp : Pos} {f : Value} {e0 ke0 : Expr} {es : List Expr} {rs : List RV} (S : En prog w B names env s.heap M ρ μ) (hf : Ev prog w A s.heap (.Name fx fp) env (fun _ u => u = f)) (K : ji B f) (hx : qy prog w A s.heap env M (e0 :: es) rs) {Q : Value → Shared → Prop}
  (he : starEach (e0 :: es) env = (false,eval e0 env) :: starEach es env)
  (hQ : ∀ vs s',Keeps s s' → zP prog w s'.heap M vs rs → wpAny (model prog w) A (eval ke0 env) (fun kv s₂ => zS B s₂.heap ∧ wpAny (model prog w) A (PySem.call f vs [(kn,kv)]) Q E s₂) E s') :
  wpAny (model prog w) A (eval (.Call (.Name fx fp) (e0 :: es) [⟨some kn,ke0,kp⟩] pos) env) Q E s:=by
 refine wpAny_Call_Name_kw (hf s E _ (zS.refl _) fun u s₁ k₁ e => ?_)
 subst e
 refine callWith_of (P:=zS B) (by rw [hx.noStar]; rfl) (fun h' X => ya K h' X) ?_
 refine evalArgs_kw2 (by rfl) (vi hx s₁ E _ (ke k₁) fun vs s₂ k₂ rs => ?_) he
 refine kwAll_cons (wpAny_mono (hQ vs s₂ (zA k₁ k₂) rs) (fun kv s₃ q => ?_) fun _ _ x => x)
 exact kwAll_nil q
theorem VC {fd : FuncData} {f : Addr} {fo : Obj} {params : Arguments} {body : Expr} {scope : Scope} {qual : Str} {c' : Addr} {cl : List (Str × Addr)} {B₀ : Heap} {x : Str} {xs : List D} {step : D → D} (F : ZN fd params (.expr body) scope qual c' cl) (hf : vg scope = true)
   (hlim : B₀.NoLimit) (XB : zS B₀ B) (hfo : B.get? f = some fo) (hfd : fo.data = .func fd) (hco : B.CodeRec (.ref c') qual) (K : Clo prog w B M₀ scope ρ cl)
   (hb : ∀ v s,BindsTo s fd ⟨[v],[]⟩ [(x,v)]) (hx : zT scope.names x = true)
   (ev : ∀ d ∈ xs,∀ A env h M,Rm A k → En prog w B scope.names env h M ((x,.dat d) :: xa scope.names ρ) [] → Ev prog w A h body env (PS prog w M (step d))) :
   wP prog w (k + 1) B M₀ f xs (fun _ : Unit => True) (fun _ => []) (fun c d => (c,step d)):=by
 intro A M s E Q c d v R _ X hM hM₁ old hd rv _ hQ
 have hto : ∀ a o,¬ M₀ a → B.get? a = some o → s.heap.get? a = some o ∧ ¬ M a:=fun a o n e => ⟨X a o e,fun m => n (hM a o m e)⟩
 refine wpAny_call (zAU (M₀:=M) (Own₀:=fun _ => False) (B:=B) (μ₀:=[]) (ρ₀:=(x,.dat d) :: xa scope.names ρ) (VQ F hf K.free K.apart) R (X f fo hfo) hfd (hlim.keeps XB) X (by rw [F.code,F.qn]; exact zi hco X) F.bod (hb v s) (by simp) ?_ old (fun _ z => z.elim) (fun y c e => ?_) ?_ (fun _ _ m => by cases m) nodup_nil ?_)
 · rw [F.sco]; simp [hx]
 · rw [F.clo] at e; obtain ⟨u,q⟩:=K.has y c e; exact ⟨u,q.keeps X⟩
 · intro y r hm
   rcases mem_cons.mp hm with e | hm
   · cases e; exact .inl ⟨v,.head _,rv⟩
   · obtain ⟨c,u,e1,e2,e3,e4⟩:=K.cap y r hm
     refine .inr ⟨?_,e4,c,u,by rw [F.clo]; exact e1,e2.keeps X,e3.to hto⟩
     rw [F.sco]
     simpa using (mem_filter.mp hm).2
 · intro env Own M' s₁ _ R' _ _ S
   rw [F.sco] at S
   refine ev d hd _ env s₁.heap M' R' S.e s₁ _ _ (zS.refl _) fun r s₂ k₂ rr => ?_
   obtain ⟨h₂,tk₂,rfl,kk⟩:=k₂
   obtain ⟨h',tk,e⟩:=S.same
   refine hQ r _ ⟨h₂,tk₂,by rw [e],fun a o _ q => ?_⟩ (fun _ _ m => by cases m) (rr.less S.more)
   have:=S.keep a o (fun z => z) q
   exact kk a o this
section
variable {M₁' : Addr → Prop}
theorem wP.base {f : Addr} {xs xs' : List D} {τ : Type} {P : τ → Prop} {μk : τ → List (Addr × D)} {step : τ → D → τ × D} (K : wP prog w k B M₁ f xs P μk step) (X : zS B B') (h1 : ∀ a o,M₁' a → B.get? a = some o → M₁ a) (h2 : ∀ a,M₁ a → M₁' a) (hs : ∀ d ∈ xs',d ∈ xs) : wP prog w k B' M₁' f xs' P μk step:=by
 intro A M s E Q c d v R hP XB hM hM₁ old hd rv hμ hQ
 exact K A M s E Q c d v R hP (X.trans XB) (fun a o m e => h1 a o (hM a o m (X a o e)) e) (fun a m => hM₁ a (h2 a m)) old (hs d hd) rv hμ hQ
theorem Ev.key {f : Addr} {fo : Obj} {fd : FuncData} {xs : List D} {step : D → D} (S : En prog w B names env h M ρ μ) (R : Rm A k) {x : Str} {xp pos : Pos} {e : Expr} {d : D} (hx : (x,RV.dat (.ob f fo)) ∈ ρ) (hdb : (x == ("__debug__" : Str)) = false) (hfd : fo.data = .func fd) (hst : ∀ rest,starEach (e :: rest) env = (false,eval e env) :: starEach rest env)
   (he : Ev prog w A h e env (PS prog w M d)) (hd : d ∈ xs) (K : wP prog w k B M₁ f xs (fun _ : Unit => True) (fun _ => []) (fun c d => (c,step d))) (hM : ∀ a o,M a → B.get? a = some o → M₁ a) (hM₁ : ∀ a,M₁ a → M a) :
   Ev prog w A h (.Call (.Name x xp) [e] [] pos) env (PS prog w M (step d)):=by
 intro s E Q kx hQ
 refine wpAny_Call_Name_kw (Ev.var S hx hdb s E _ kx fun u s₁ k₁ r => ?_)
 obtain ⟨rfl,ef,mf⟩:=Rp.ob_inv r
 have hx1 : Zr prog w A h env M [e] [d]:=.cons he .nil hst
 refine callWith_of (P:=fun h => h.get? f = some fo) (by show ((backTo pos (starEach [e] env)).any (·.1) || false) = false; rw [hx1.rd.noStar]; rfl) (fun h' X => ⟨.frame,.inl rfl, ?_⟩) (wS hx1 (kx.trans (ke k₁)) fun vs s₂ k₂ rs => ?_)
 · refine (Looks.ld (part:=none) X).andThen ?_
   rw [hfd]
   exact Looks.now
 · refine ⟨ke k₂ _ _ ef, ?_⟩
   have X:=kx.trans (ke (zA k₁ k₂))
   cases rs with | cons rv rs => cases rs with | nil =>
   refine K A M s₂ E Q () d _ R trivial (S.base.trans X) hM hM₁ (fun a m => by obtain ⟨o,e⟩:=S.old a m; exact ⟨o,X a o e⟩) hd rv (fun a y hm => by cases hm) fun r' s' ef' _ rr => hQ r' s' (zA (zA k₁ k₂) ?_) rr
   obtain ⟨h',tk,rfl,kk⟩:=ef'
   exact ⟨h',tk,rfl,fun a o e => kk a o (by simp) e⟩
theorem vV {x : Str} {p pos : Pos} {e : Expr} (hs : swapsWith e (some (.Name x p)) pos.line env = pure false) (hx : zT names x = true)
  (hv : wpAny (model prog w) A (eval e env) (fun v s₁ => ∃ Own M ρ μ r,St prog w B s₀ Own₀ M₀ names env Own M ρ μ s₁ ∧ zt prog w s₁.heap M v r ∧ ∀ s',St prog w B s₀ Own₀ M₀ names env Own M ((x,r) :: YX x ρ) μ s' → wpAny (model prog w) A (execs rest env) Q E s') E s) :
  wpAny (model prog w) A (execs (.Assign [.Name x p] e pos :: rest) env) Q E s :=
 wpAny_execs_cons (wpAny_Assign_Name (wpAny_mono hv (fun v s₁ q => by obtain ⟨Own,M,ρ,μ,r,S,hr,k⟩:=q; exact S.store hr hx fun s' S' => k s' S') fun _ _ e => e) hs)
theorem xf {pos : Pos} {e : Expr} (N : vq names env) (hv : wpAny (model prog w) A (eval e env) (fun _ s₁ => wpAny (model prog w) A (execs rest env) Q E s₁) E s) (hs : swapsWith e none pos.line env = pure false:=by rfl) :
  wpAny (model prog w) A (execs (.Expr e pos :: rest) env) Q E s :=
 wpAny_execs_cons (wpAny_Expr_any hv (by simp [interactive,N.fn]) hs)
end
theorem ZT : ∀ (l : List (Array Value)) (acc : Array Value),l.foldl (fun a b => a ++ b) acc = acc ++ (l.map toList).flatten.toArray
 | [],acc => by simp
 | x :: l,acc => by
  rw [foldl_cons,ZT l]
  apply ext'
  simp
theorem Kp {h h' : Heap} {M M' : Addr → Prop} {v : Value} {d : D} (r : Rp prog w h M v d) (f : Zh d = true) : Rp prog w h' M' v d:=by
 cases r <;> first | (exfalso; simp [Zh] at f; done) | constructor
noncomputable abbrev xA (l : List Env) : List Addr:=l.filterMap (·.frame)
noncomputable def yN (h : Heap) (l : List Env) : Prop:=∀ env ∈ l,env.scope.kind ≠ .module ∧ ∃ L o,env.frame = some L ∧ h.get? L = some o ∧ ∀ vs,o.data ≠ .fields vs
theorem yN.to {h h' : Heap} {l : List Env} (x : yN h l) (k : ∀ a o,h.get? a = some o → (∀ vs,o.data ≠ .fields vs) → ∃ o',h'.get? a = some o' ∧ o'.data = o.data) : yN h' l:=fun env he => by
 obtain ⟨h1,L,o,h2,h3,h4⟩:=x env he
 obtain ⟨o',e1,e2⟩:=k L o h3 h4
 exact ⟨h1,L,o',h2,e1,fun vs => e2 ▸ h4 vs⟩
theorem yN.ff {h base : Heap} : ∀ {l : List Env},yN h l → (∀ a ∈ xA l,base.get? a = none) → h.FunFrames base l
 | [],_,_ => trivial
 | env :: l,x,hb => by
  obtain ⟨h1,L,o,h2,h3,h4⟩:=x env (.head _)
  have e : xA (env :: l) = L :: xA l:=by simp [xA,h2]
  exact ⟨h1,⟨L,o,h2,hb L (by rw [e]; exact .head _),h3,h4⟩,yN.ff (fun env he => x env (.tail _ he)) fun a ha => hb a (by rw [e]; exact .tail _ ha)⟩
theorem yN.frame {h : Heap} {l : List Env} (x : yN h l) {a : Addr} (ha : a ∈ xA l) : ∃ o,h.get? a = some o ∧ ∀ vs,o.data ≠ .fields vs:=by
 obtain ⟨env,he,e⟩:=List.mem_filterMap.mp ha
 obtain ⟨_,L,o,h2,h3,h4⟩:=x env he
 rw [h2] at e; cases e
 exact ⟨o,h3,h4⟩
noncomputable def YD (l : List Env) (h h' : Heap) : Prop:=(∀ a o,a ∉ xA l → h.get? a = some o → h'.get? a = some o) ∧ h.UpToSlots h'
theorem YD.of {l : List Env} {h h' : Heap} (k : (hideAll h (xA l)).StaysIn h') (u : h.UpToSlots h') : YD l h h':=⟨fun a o n e => k a o (hideAll_get _ e n),u⟩
noncomputable def Wk (h₁ : Heap) (l₁ l : List Env) (e : Addr) (cls : String) (h : Heap) : Prop:=(∃ a0,Heap.FlyingW (hideAll h₁ (xA l₁)) l e (.type cls) a0 h) ∧ h₁.UpToSlots h
theorem Vj {M' : Model} {l : List Env} {L e : Addr} {cls : String} {h₁ : Heap} {E : Value → Shared → Prop} {Q : Unit → Shared → Prop} (hfr : A.frames = some (env :: l)) (hf : env.frame = some L) (ok : yN h₁ (env :: l)) (hx : Heap.NewExc h₁ s.heap e cls)
  (hQ : ∀ h',Wk h₁ (env :: l) l e cls h' → Q () { s with heap:=h' }) : wpAny M' A (leaving env (.ref e)) Q E s:=by
 obtain ⟨ob,t,he,hcls,hd⟩:=hx.there
 have ok' : yN s.heap (env :: l):=ok.to fun a o e _ => ⟨o,hx.keeps a o e,rfl⟩
 have hen : (hideAll h₁ (xA (env :: l))).get? e = none:=by
  cases q : (hideAll h₁ (xA (env :: l))).get? e with
  | none => rfl
  | some o => have z:=hx.new; rw [of_hideAll _ q] at z; cases z
 refine wpAny_leaving_firstW (base:=hideAll h₁ (xA (env :: l))) hfr (ok'.ff fun a ha => hideAll_none _ ha) hf he (fun a o q => hx.keeps a o (of_hideAll _ q)) hen hd rfl rfl fun h' hL => ?_
 obtain ⟨k1,⟨_,_,k2⟩,k3,k4⟩:=hL
 rw [hcls] at k3
 exact hQ h' ⟨⟨_,k1,hen,k2,k3⟩,(Heap.UpToSlots.of_keeps hx.keeps).trans k4⟩
theorem zA1 {l l₁ : List Env} {L e : Addr} {cls : String} {h₁ : Heap} {t : Expr} {b₀ : Stmt} {suite : List Stmt} {pos : Pos} {hs : List ExceptHandler} (hfr : A.frames = some (env :: l)) (hf : env.frame = some L) (F : Wk h₁ l₁ (env :: l) e cls s.heap)
   (hexc : isSubtype (.type cls) (.type "BaseException") = pure true) (hnt : isSubtype (.type ((Manifest.find? cls).elim "type" fun x => x.metatype)) (.type "tuple") = pure false) (hsub : isSubtype (.type cls) (.type cls) = pure true)
   (ht : ∀ (s' : Shared) (E' : Value → Shared → Prop) (Q' : Value → Shared → Prop),zS (hideAll h₁ (xA l₁)) s'.heap → Q' (.type cls) s' → wpAny (model prog w) (A.mark (some (.ref e))) (eval t env) Q' E' s') (hE : PassesOwnAt (model prog w) (A.mark (some (.ref e))) A env E)
   (hQ : ∀ h',YD l₁ h₁ h' → wpAny (model prog w) (A.mark (some (.ref e))) (execs (b₀ :: suite) env) Q E { s with heap:=h' }) :
   wpAny (model prog w) A (noteFrame (.ref e) env) (fun _ s₂ => wpAny (model prog w) A (setFlight (.ref e) none) (fun _ s₃ => wpAny (model prog w) A (handleBy (.ref e) env (.ExceptHandler (some t) none (b₀ :: suite) pos :: hs)) Q E s₃) E s₂) E s:=by
 obtain ⟨⟨a0,hfl⟩,u0⟩:=F
 refine wpAny_looks_onW hfr hf hfl fun h2 hh u1 => wpAny_landsW hh fun h3 hfl3 u2 => ?_
 refine wpAny_handleBy_builtin (X:=cls) (T:=cls) (b:=true) hexc hnt hsub (wpAny_passesOwnAt hE (ht _ _ _ hfl3.1 ⟨rfl, ?_, ?_⟩))
 · obtain ⟨ob,h4,h5⟩:=hfl3.there
   exact ⟨ob,h4,h5⟩
 · rw [if_pos rfl]
   obtain ⟨f1,f2,f3,f4⟩:=hfl3
   refine wpAny_setFlight_noneW f1 f3 f4.at fun h4 k1 k2 k3 k4 => wpAny_passesOwnAt hE ?_
   exact hQ h4 (YD.of k1 (((u0.trans u1).trans u2).trans fun b o e n => ⟨o.slots,k4 b o e n⟩))
theorem St.slots (S : St prog w B s₀ Own₀ M₀ names env Own M ρ μ s) {fs wr : List Addr} {μ' : List (Addr × D)} {h' : Heap} {tk : Nat} (hfs : ∀ a ∈ fs,Own a ∧ ∀ d,(a,d) ∉ μ') (hwr : ∀ a ∈ wr,Own a ∧ (∃ d,(a,d) ∈ μ) ∧ ∃ o,h'.get? a = some o)
   (hμ : ∀ p ∈ μ',p ∈ μ ∧ p.1 ∉ wr) (hnd : (μ'.map (·.1)).Nodup) (hk : ∀ a o,a ∉ fs → a ∉ wr → s.heap.get? a = some o → h'.get? a = some o) (hu : ∀ a o,a ∉ wr → s.heap.get? a = some o → (∀ vs,o.data ≠ .fields vs) → ∃ sl,h'.get? a = some { o with slots:=sl })
   (hfd : ∀ a ∈ fs,∀ o,s.heap.get? a = some o → ∀ vs,o.data ≠ .fields vs) : St prog w B s₀ Own₀ M₀ names env Own M ρ μ' { s with heap:=h',toks:=tk }:=by
 have hO : ∀ a,a ∈ fs ∨ a ∈ wr → Own a:=fun a z => z.elim (fun q => (hfs a q).1) fun q => (hwr a q).1
 have hmv : ∀ b o,¬ M b → s.heap.get? b = some o → h'.get? b = some o ∧ ¬ M b:=fun b o m e => ⟨hk b o (fun q => m (S.own b (hO b (.inl q)))) (fun q => m (S.own b (hO b (.inr q)))) e,m⟩
 have hfw : ∀ a,zO names env a → a ∉ wr:=fun a z q => by obtain ⟨_,⟨d,hd⟩,_⟩:=hwr a q; exact S.sep a d hd z
 have hcw : ∀ c v,s.heap.IsCell c v → c ∉ wr:=fun c v z q => by obtain ⟨_,⟨d,hd⟩,_⟩:=hwr c q; exact zr (S.e.mem c d hd) z
 have hns : ∀ {a : Addr} {m},a ∉ wr → s.heap.Ns a m → h'.Ns a m:=fun {a m} n ⟨o,es,ep,ho,hd,r⟩ => by
   obtain ⟨sl,q⟩:=hu a o n ho fun vs z => by rw [hd] at z; cases z
   exact ⟨_,es,ep,q,hd,r⟩
 have hce : ∀ {c v},s.heap.IsCell c v → h'.IsCell c v:=fun {c v} z => by
   have n:=hcw c v z
   obtain ⟨o,ho,hd⟩:=z
   obtain ⟨sl,q⟩:=hu c o n ho fun vs z => by rw [hd] at z; cases z
   exact ⟨_,q,hd⟩
 obtain ⟨h,t,e⟩:=S.same
 have hz : ∀ b o,Own b → s₀.heap.get? b = some o → Own₀ b:=fun b o z q => by
   rcases S.fresh b z with y | y
   · exact y
   · rw [q] at y; cases y
 refine ⟨⟨h',tk,by rw [e]⟩,⟨fun b o q => ?_,S.e.n,fun b m => ?_,fun y c q => ?_,fun y u hm => ?_,fun b d hm => ?_⟩,⟨?_,fun y c hy q => ?_⟩,fun b o n q => ?_,S.own,S.own₀,S.fresh,S.more,S.fr,S.base,fun b d hm => S.sep b d (hμ _ hm).1,hnd⟩
 · refine hk b o (fun z => ?_) (fun z => ?_) (S.e.base b o q)
   · rw [S.base b (hO b (.inl z))] at q; cases q
   · rw [S.base b (hO b (.inr z))] at q; cases q
 · by_cases hw : b ∈ wr
   · exact (hwr b hw).2.2
   · obtain ⟨o,q⟩:=S.e.old b m
     by_cases hf : b ∈ fs
     · obtain ⟨sl,z⟩:=hu b o hw q (hfd b hf o q); exact ⟨_,z⟩
     · exact ⟨o,hk b o hf hw q⟩
 · obtain ⟨u,z⟩:=S.e.celled y c q; exact ⟨u,hce z⟩
 · obtain ⟨v,hv,hr⟩:=S.e.vars y u hm
   refine ⟨v, ?_,hr.to hmv⟩
   rcases hv with ⟨x1,m,n,e1⟩ | ⟨x1,c,e1,q⟩
   · exact .inl ⟨x1,m,hns (hfw _ (.inl rfl)) n,e1⟩
   · exact .inr ⟨x1,c,e1,hce q⟩
 · exact (S.e.mem b d (hμ _ hm).1).to (fun o q => hk b o (fun z => (hfs b z).2 d hm) (hμ _ hm).2 q) hmv
 · obtain ⟨m,n⟩:=S.f.ns
   exact ⟨m,hns (hfw _ (.inl rfl)) n⟩
 · obtain ⟨v,z⟩:=S.f.cell y c hy q; exact ⟨v,hce z⟩
 · exact hk b o (fun z => n (hz b o (hO b (.inl z)) q)) (fun z => n (hz b o (hO b (.inr z)) q)) (S.keep b o n q)
theorem Zf {σ : Type} {test : Expr} {body : List Stmt} {pos : Pos} (S : St prog w B s₀ Own₀ M₀ names env Own M ρ μ s) (hE : PassesOwn (model prog w) A env E)
  (ρ' : σ → List (Str × RV)) (μ' : σ → List (Addr × D)) (P : σ → Prop) (m : σ → Nat) (t : σ → Bool) (c₀ : σ) (hp : P c₀) (hρ : ∀ x r,(x,r) ∈ ρ' c₀ → (x,r) ∈ ρ) (hμ : μ' c₀ = μ)
  (htest : ∀ c s₁,P c → St prog w B s₀ Own₀ M₀ names env Own M (ρ' c) (μ' c) s₁ → Tv prog w A s₁.heap test env (t c))
  (turn : ∀ c s₁,P c → t c = true → St prog w B s₀ Own₀ M₀ names env Own M (ρ' c) (μ' c) s₁ →
    wpAny (model prog w) A (execs body env) (fun f s₂ => f = .next ∧ ∃ c',P c' ∧ m c' < m c ∧ St prog w B s₀ Own₀ M₀ names env Own M (ρ' c') (μ' c') s₂) E s₁)
  (done : ∀ c s',P c → t c = false → St prog w B s₀ Own₀ M₀ names env Own M (ρ' c) (μ' c) s' → wpAny (model prog w) A (execs rest env) Q E s') :
  wpAny (model prog w) A (execs (.While test body [] pos :: rest) env) Q E s:=by
 refine wpAny_execs_cons (wpAny_While ?_)
 refine codeAny_whileLoop (fun k s' => ∃ c,m c = k ∧ P c ∧ St prog w B s₀ Own₀ M₀ names env Own M (ρ' c) (μ' c) s') ?_ (m c₀) ⟨c₀,rfl,hp,by rw [hμ]; exact S.sub hρ⟩
 rintro k s' ⟨c,rfl,hP,T⟩
 refine htest c s' hP T s' _ _ (zS.refl _) fun s₂ k₂ => ?_
 have T₂:=T.step k₂
 cases ht : t c with
 | false =>
  simp only [false_eq_true,if_false]
  exact wpAny_execs_nil (done c s₂ hP ht T₂)
 | true =>
  simp only [if_true]
  refine wpAny_mono (turn c s₂ hP ht T₂) (fun f s₄ hf => ?_) fun e s₄ x => ?_
  · obtain ⟨rfl,c',hc',hm',T₄⟩:=hf
    exact ⟨m c',hm',c',rfl,hc',T₄⟩
  · exact hE e s₄ x
open PySem PySem.Calls PyProof.Rows PySem.W Builtin
theorem jn {b : Array UInt8} {t : Tok} {Q : Value → Shared → Prop} (hQ : Q (.ref s.heap.objs.size) { s with heap:=s.heap.push (qV b t 0) }) : wpAny (model prog w) A (PySem.call (.builtin "iter") [.bytes b t]) Q E s:=by
 refine call_function_entry (by decide +kernel) (by decide +kernel) kdk_entry_iter (kdk_args_iter _) ?_
 unfold Builtin.«iter»
 refine wpAny_bind (m:=someArgs "iter" 1 2 _) (wpAny_of_eq (a:=[Value.bytes b t]) (by first | rfl | kernel_rfl!) ?_)
 show wpAny _ _ (pyIter (.bytes b t) >>= _) _ _ _
 refine wpAny_bind (KBw.pyIter_bytes ?_)
 exact wpAny_pure ⟨_,rfl,hQ⟩
theorem kW {b : Array UInt8} {t : Tok} {it : Addr} {i : Nat} {c : UInt8} {Q : Value → Shared → Prop} (ho : s.heap.get? it = some (qV b t i)) (hx : b[i]? = some c)
  (hQ : ∀ h',h'.get? it = some (qV b t (i + 1)) → Heap.SameBut it s.heap h' → Q (.int (c.toNat : Int) s.toks) { s with heap:=h',toks:=s.toks + 1 }) : wpAny (model prog w) A (PySem.call (.builtin "next") [.ref it]) Q E s:=by
 have hT : s.TypeIs (.ref it) "bytes_iterator" := ⟨_,ho,rfl⟩
 refine call_function_entry (by decide +kernel) (by decide +kernel) kdk_entry_next (kdk_args_next _) ?_
 unfold Builtin.«next»
 refine wpAny_bind (m:=someArgs "next" 1 2 _) (wpAny_of_eq (a:=[Value.ref it]) (by first | rfl | kernel_rfl!) ?_)
 dsimp only
 refine wpAny_bind (wpAny_specialOf (name:=ofString "__next__") hT KBw.slot_next.lookup ?_)
 refine wpAny_ite_split (fun hab => absurd hab (by decide)) (fun _ => ?_)
 refine wpAny_bind (wpAny_callSpecial?_slot (name:=PySem.Str.ofString "__next__") hT KBw.slot_next (wpAny_call_entry KBw.slot_next hT KBw.entry_next ?_ (KBw.args_next _)))
 have hd : (qV b t i).data = .fields #[.bytes b t,.int i 0]:=rfl
 show wpAny _ _ (field (.ref it) 0 >>= _) _ _ s
 refine wpAny_bind (wpAny_field ho hd (x:=.bytes b t) rfl ?_)
 show wpAny _ _ (if (Value.bytes b t == Value.none) = true then _ else _) _ _ s
 rw [if_neg (show ¬ ((Value.bytes b t == Value.none) = true) from Bool.false_ne_true)]
 show wpAny _ _ (field (.ref it) 1 >>= _) _ _ s
 refine wpAny_bind (wpAny_field ho hd (x:=.int i 0) rfl ?_)
 refine wpAny_bind (wpAny_of_eq (a:=b) rfl ?_)
 simp only [toNat_natCast,hx]
 refine wpAny_bind (wpAny_setField ho hd (by simp) (wpAny_bind (wpAny_mkInt (wpAny_pure ⟨_,rfl,wpAny_pure ⟨_,rfl,hQ _ ?_ (Heap.SameBut.update ..)⟩⟩))))
 rw [get?_update_self _ ho (Obj.isFreed_of_fields (Obj.data_mapFields hd _))]
 simp [Obj.mapFields,rawInt]
theorem ZG {b : Array UInt8} {t : Tok} {it : Addr} {i : Nat} {Q : Value → Shared → Prop} (hh : A.handled = none) (ho : s.heap.get? it = some (qV b t i)) (hx : b[i]? = none)
  (hQ : ∀ h₁ h' e,Heap.SameBut it s.heap h₁ → (∃ o,h₁.get? it = some o) → Heap.NewExc h₁ h' e "StopIteration" → E (.ref e) { s with heap:=h' }) : wpAny (model prog w) A (PySem.call (.builtin "next") [.ref it]) Q E s:=by
 have hT : s.TypeIs (.ref it) "bytes_iterator" := ⟨_,ho,rfl⟩
 refine call_function_entry (by decide +kernel) (by decide +kernel) kdk_entry_next (kdk_args_next _) ?_
 unfold Builtin.«next»
 refine wpAny_bind (m:=someArgs "next" 1 2 _) (wpAny_of_eq (a:=[Value.ref it]) (by first | rfl | kernel_rfl!) ?_)
 dsimp only
 refine wpAny_bind (wpAny_specialOf (name:=ofString "__next__") hT KBw.slot_next.lookup ?_)
 refine wpAny_ite_split (fun hab => absurd hab (by decide)) (fun _ => ?_)
 refine wpAny_bind (wpAny_callSpecial?_slot (name:=PySem.Str.ofString "__next__") hT KBw.slot_next (wpAny_call_entry KBw.slot_next hT KBw.entry_next ?_ (KBw.args_next _)))
 have hd : (qV b t i).data = .fields #[.bytes b t,.int i 0]:=rfl
 show wpAny _ _ (field (.ref it) 0 >>= _) _ _ s
 refine wpAny_bind (wpAny_field ho hd (x:=.bytes b t) rfl ?_)
 show wpAny _ _ (if (Value.bytes b t == Value.none) = true then _ else _) _ _ s
 rw [if_neg (show ¬ ((Value.bytes b t == Value.none) = true) from Bool.false_ne_true)]
 show wpAny _ _ (field (.ref it) 1 >>= _) _ _ s
 refine wpAny_bind (wpAny_field ho hd (x:=.int i 0) rfl ?_)
 refine wpAny_bind (wpAny_of_eq (a:=b) rfl ?_)
 simp only [toNat_natCast,hx]
 refine wpAny_bind (wpAny_rule (wpAny_bind (wpAny_setField ho hd (by simp) ?_)))
 show wpAny _ _ (newExc (.type "StopIteration") [] >>= _) _ _ _
 refine wpAny_bind ?_
 simp only [newExc,newTuple]
 refine wpAny_bind (wpAny_newObj_type ?_ (by size_fits))
 refine wpAny_bind (m:=firstArgMember _ _) (wpAny_of_eq (a:=Value.none) (by first | rfl | (simp only [firstArgMember]; rfl)) ?_)
 refine wpAny_newObj_type ?_ (by size_fits)
 simp only [raiseNew]
 refine wpAny_bind (wpAny_handled ?_)
 rw [show A.in1.handled = none from hh]
 refine wpAny_bind (wpAny_pure (wpAny_throw ?_))
 refine hQ (s.heap.update it (Obj.mapFields (·.setIfInBounds 0 .none))) _ _ (Heap.SameBut.update ..) ⟨_,get?_update_self _ ho (Obj.isFreed_of_fields (Obj.data_mapFields hd _))⟩ ⟨fun b o e => get?_push_of_some _ (get?_push_of_some _ e),get?_none_of_le (by rw [Heap.size_push]; omega), ?_⟩
 exact ⟨_,_,get?_push_size _ rfl,rfl,rfl⟩
theorem VB (G : Gl B mg mb) (hnx : mg "next" = none ∧ mb "next" = some (.builtin "next")) (S : St prog w B s₀ Own₀ M₀ names env Own M ρ [(it,.bit b i)] s) (hh : A.handled = none) {x y : Str} {fp yp cp p pos : Pos}
  (hy : (y,RV.adr it) ∈ ρ) (hyd : (y == ("__debug__" : Str)) = false) (hx : zT names x = true) (hnn : names.lookup (ofString "next") = some .globalImplicit) (ho : Own it)
  (hs : swapsWith (.Call (.Name (ofString "next") fp) [.Name y yp] [] cp) (some (.Name x p)) pos.line env = pure false)
  (hit : ∀ c s',b[i]? = some c → St prog w B s₀ Own₀ M₀ names env Own M ((x,.dat (.int (c.toNat : Int))) :: YX x ρ) [(it,.bit b (i + 1))] s' → wpAny (model prog w) A (execs rest env) Q E s')
  (hend : ∀ s₁ h₁ h' e,b[i]? = none → St prog w B s₀ Own₀ M₀ names env Own M ρ [(it,.bit b i)] s₁ → Heap.SameBut it s₁.heap h₁ → (∃ o,h₁.get? it = some o) → Heap.NewExc h₁ h' e "StopIteration" → E (.ref e) { s₁ with heap:=h' }) :
  wpAny (model prog w) A (execs (.Assign [.Name x p] (.Call (.Name (ofString "next") fp) [.Name y yp] [] cp) pos :: rest) env) Q E s:=by
 refine vV hs hx (s₀:=s₀) (Own₀:=Own₀) (M₀:=M₀) (B:=B) (names:=names) ?_
 refine wh (f:=.builtin "next") (rs:=[.adr it]) S.e (Ev.glob G S.e hnn (.inr hnx) (by decide)) (.inl fun _ e => by cases e) (.cons (Ev.var S.e hy hyd) .nil fun _ => rfl) fun vs s₁ k₁ rs => ?_
 cases rs with | @cons v _ _ _ r rs => cases rs with | nil =>
 have r : v = .ref it:=r
 subst r
 have S₁:=S.step k₁
 obtain ⟨t,ho1⟩ : ∃ t,s₁.heap.get? it = some (qV b t i):=by
  have:=S₁.e.mem it _ (.head _)
  cases this with | itr p => exact ⟨_,p⟩
 cases hb : b[i]? with
 | some c =>
  refine kW ho1 hb fun h' g sb => ?_
  have S₂:=S₁.effect1 (pre:=[]) (post:=[]) (d':=.bit b (i + 1)) (h':=h') (tk:=s₁.toks + 1) rfl ho (fun a o n e => (sb.2 a n).trans e) (.itr g)
  exact ⟨_,_,_,_,.dat (.int (c.toNat : Int)),S₂,.int _ _,fun s' S' => hit c s' hb S'⟩
 | none =>
  exact ZG hh ho1 hb fun h₁ h' e sb hex hx => hend s₁ h₁ h' e hb S₁ sb hex hx
theorem St.raised (S : St prog w B s₀ Own₀ M₀ names env Own M ρ μ s) {l : List Env} {wr : List Addr} (hfr : env.frame = some env.locals) (hO : ∀ a,Own₀ a → a ∈ wr) (hok : yN s₀.heap l) (hfw : ∀ a ∈ xA l,¬ Own₀ a) {h₁ : Heap} (hsb : ∀ a o,a ∉ wr → s.heap.get? a = some o → h₁.get? a = some o) (hsep : env.locals ∉ wr) (hfl : ∀ a ∈ xA l,a ∉ wr) :
   yN h₁ (env :: l) ∧ (∀ a o,a ∉ wr → s₀.heap.get? a = some o → h₁.get? a = some o):=by
 have kp : ∀ a o,a ∉ wr → s₀.heap.get? a = some o → h₁.get? a = some o:=fun a o n e => hsb a o n (S.keep a o (fun z => n (hO a z)) e)
 refine ⟨fun en he => ?_,kp⟩
 rcases mem_cons.mp he with rfl | he
 · refine ⟨by rw [S.e.n.fn]; decide,en.locals, ?_⟩
   obtain ⟨m,o,es,ep,e,hd,_⟩:=S.f.ns
   exact ⟨o,hfr,hsb _ _ hsep e,fun vs z => by rw [hd] at z; cases z⟩
 · obtain ⟨h1,L,o,h2,h3,h4⟩:=hok en he
   have hL : L ∈ xA l:=List.mem_filterMap.mpr ⟨en,he,h2⟩
   exact ⟨h1,L,o,h2,kp _ _ (hfl L hL) h3,h4⟩
theorem Wx (G : Gl B mg mb) (N : vq names env) {x : Str} {v : Value} {p : Pos} {Q : Value → Shared → Prop} (X : zS B s.heap) (hx : names.lookup x = some .globalImplicit) (hv : mg x = some v ∨ (mg x = none ∧ mb x = some v)) (hd : (x == ("__debug__" : Str)) = false) (h : Q v s) :
   wpAny (model prog w) A (eval (.Name x p) env) Q E s:=by
 refine Name_function_global N.fn (N.gi x hx) ?_ hd
 rcases hv with e | ⟨e,e'⟩
 · exact loadGlobal_global (by rw [N.glob]; exact G.g.keeps X) e h
 · exact loadGlobal_builtin (by rw [N.glob]; exact G.g.keeps X) e (by rw [N.bl]; exact G.b.keeps X) e' h
theorem YT (N : vq names env) {x : Str} {v : Value} {p : Pos} {Q : Value → Shared → Prop} (hv : yL env s.heap x v) (hd : (x == ("__debug__" : Str)) = false) (h : Q v s) : wpAny (model prog w) A (eval (.Name x p) env) Q E s:=by
 refine wpAny_Name ?_ hd
 rcases hv with ⟨a,m,n,e⟩ | ⟨a | ⟨a,a2⟩,c,e,q⟩
 · exact wpAny_loadName_local N.fn a n e h
 · exact wpAny_loadName_cell N.fn a e q h
 · exact wpAny_loadName_free N.fn a e q h a2
theorem VO {k : Nat} (C : Prop) (S : St prog w B s₀ Own₀ M₀ names env Own M ρ μ s) (R : Rm A k) {x : Str} {xp apos pos pos2 : Pos} {name : Str} {T id : String} {e : Expr} {a : Addr} {d d1 d' dd : D} {pre post : List (Addr × D)}
   (hm : (x,RV.adr a) ∈ ρ) (hdb : (x == ("__debug__" : Str)) = false) (hμ : (a,d) ∈ μ) (ho : Own a) (hT : tyD d = some T) (pa : PlainAttrs T) (slot : Slot T name id) (hty : typeOf (.builtin id) = pure (.type "method_descriptor"))
   (hst : ∀ rest,starEach (e :: rest) env = (false,eval e env) :: starEach rest env) (hline : (apos.endLine == pos.line) = true)
   (hx : ∀ (Q' : Value → Shared → Prop) s₁,St prog w B s₀ Own₀ M₀ names env Own M ρ μ s₁ → (∀ v s',C → St prog w B s₀ Own₀ M₀ names env Own M ρ (pre ++ (a,d1) :: post) s' → Rp prog w s'.heap M v dd → Q' v s') → wpAny (model prog w) A (eval e env) Q' E s₁)
   (hc : wI prog w k (.builtin id) d1 [dd] d' .none)
   (hQ : ∀ s',C → St prog w B s₀ Own₀ M₀ names env Own M ρ (pre ++ (a,d') :: post) s' → wpAny (model prog w) A (execs rest env) Q E s') :
   wpAny (model prog w) A (execs (.Expr (.Call (.Attribute (.Name x xp) name apos) [e] [] pos) pos2 :: rest) env) Q E s:=by
 refine wpAny_execs_cons (wpAny_Expr ?_ (by simp [interactive,S.e.n.fn]) rfl)
 have hc0:=S.e.mem a d hμ
 refine wpAny_Call_method (by rfl) ?_ hline pa slot hty (Ev.var S.e hm hdb s E _ (zS.refl _) fun ov s₁ k₁ r => ?_)
 · rw [hst]; rfl
 cases r
 have rr : Rd prog w s₁.heap M (.ref a) d:=.inr ⟨a,rfl,hc0.ext (ke k₁)⟩
 refine ⟨(wE hT rr).1,(wE hT rr).2, ?_⟩
 refine PySem.Calls.callWith_builtin (by rw [hst]; rfl) ?_
 rw [hst]
 refine evalArgs_plain (spliced_cons (hx _ s₁ (S.step k₁) fun v s₂ hC S₂ rv => spliced_nil ?_))
 refine hc A M s₂ E _ a [v] R (S.own a ho) (S₂.e.mem a d1 (by simp)) (.cons rv .nil) fun v s' ef c' rv => ?_
 obtain ⟨h',tk,rfl,kk⟩:=ef
 rw [rv.none_inv]
 exact hQ _ hC (S₂.effect1 rfl ho (fun b o n e => kk b o (by simpa using n) e) c')
theorem Qw {fd : FuncData} {f : Addr} {o : Obj} {sa : Shared} {body : List Stmt} {args : Args} {binds : List (Str × Value)} {k : Nat} {RR : Result → Shared → Prop} (O : j4 fd) (R : Rm A (k + 1)) (ho : sa.heap.get? f = some o) (hd : o.data = .func fd)
  (hlim : B.NoLimit) (base : zS B s.heap) (hcd : sa.heap.CodeRec fd.code fd.qualname) (hbody : fd.body = .stmts body) (hbind : ∀ (M : Model) (A : Around) (E : Value → Shared → Prop) (Q : List (Str × Value) → Shared → Prop),Q binds s → wpAny M A (bindArgs fd args) Q E sa) (hn : (binds.map (·.1)).Nodup) (hk : (binds.all fun p => zT fd.scope.names p.1) = true)
  (hold : ∀ a,M₀ a → ∃ o,s.heap.get? a = some o) (hown : ∀ a,Own₀ a → M₀ a ∧ B.get? a = none) (hclo : ∀ x c,fd.closure.lookup x = some c → ∃ v,s.heap.IsCell c v)
  (ρ₀ : List (Str × RV)) (hρ : ∀ x r,(x,r) ∈ ρ₀ → (∃ v,(x,v) ∈ binds ∧ zt prog w s.heap M₀ v r) ∨ (fd.scope.names.lookup x = some .free ∧ (x == ("__classdict__" : Str)) = false ∧ ∃ c v,fd.closure.lookup x = some c ∧ s.heap.IsCell c (some v) ∧ zt prog w s.heap M₀ v r))
  (μ₀ : List (Addr × D)) (hμ : ∀ a d,(a,d) ∈ μ₀ → zd prog w s.heap M₀ a d) (hnd : (μ₀.map (·.1)).Nodup)
  (run : ∀ env Own M s₁,(∃ L,env = zW fd L f) → Rm (A.deeper env) k → (∀ a,Own₀ a → Own a) → (∀ a,M a → M₀ a ∨ s.heap.get? a = none) → St prog w B s Own₀ M₀ fd.scope.names env Own M ρ₀ μ₀ s₁ →
   wpAny (model prog w) (A.deeper env) (execs body env) (fun fl s' => RR (.ok (.ret (match fl with | .ret v => v | _ => .none))) s')
    (fun e s' => wpAny (model prog w) (A.deeper env) (leaving env e) (fun _ s'' => RR (.error e) s'') (fun e' s'' => RR (.error e') s'') s') s₁) :
  codeAny (model prog w) A (.call (.ref f) args) RR sa:=by
 refine codeAny_call_function (by have:=R.hd; show A.depth < 1000; omega) ho hd O.co O.gen hbody hcd (hbind _ _ _ _ ?_)
 refine xh O (f:=f) (fun x c e => by obtain ⟨v,o,q,_⟩:=hclo x c e; exact lt_size q) hn (fun p hp => all_eq_true.mp hk p hp) fun h' tk F hb kx hA => ⟨hlim.keeps (base.trans kx),codeAny_func ?_⟩
 have fresh : ∀ a,zO fd.scope.names (zW fd s.heap.objs.size f) a → s.heap.get? a = none:=fun a z => get?_none_of_le (hA a z)
 exact run _ _ _ _ ⟨_,rfl⟩ (R.deeper _) (fun a o => .inl o) (fun a m => m.imp id (fresh a)) (zA2 O base hold hown hclo ρ₀ hρ μ₀ hμ hnd F hb kx fresh)
theorem Rm.under {A : Around} {k : Nat} {c : Code} (r : Rm A (k + 1)) (h : (A.under c).handled = A.handled ∧ (A.under c).depth ≤ A.depth + 1 ∧ (A.under c).units ≤ A.units + 4) : Rm (A.under c) k:=⟨h.1.trans r.hh,by have:=r.hd; omega,by have:=r.hu; omega⟩
structure zw (B : Heap) (d : Stmt) (f : Addr) (fd : FuncData) : Prop where
 get : ∃ o,B.get? f = some o ∧ o.data = .func fd ∧ o.cls = .type "function"
 code : B.CodeRec fd.code fd.qualname
 ok : j4 fd
 args : fd.params = wd d
 body : fd.body = .stmts (zB d)
 scope : fd.scope = zR d
 clo : fd.closure = []
theorem zw.ext {B B' : Heap} {d : Stmt} {f : Addr} {fd : FuncData} (H : zw B d f fd) (X : zS B B') : zw B' d f fd :=
 ⟨by obtain ⟨o,e,q⟩:=H.get; exact ⟨o,X _ _ e,q⟩,zi H.code X,H.ok,H.args,H.body,H.scope,H.clo⟩
theorem zw.keepy {B : Heap} {d : Stmt} {f : Addr} {fd : FuncData} (H : zw B d f fd) : ji B (.ref f):=by
 obtain ⟨o,e,q,_⟩:=H.get
 exact .inr ⟨f,o,fd,rfl,e,q⟩
section
variable {mA : Str → Option Value}
noncomputable def Y3 (prog : Program) (w : World) (d : D) (C : Addr) (mA : Str → Option Value) : Prop:=∀ h M v,Rp prog w h M v d → ∃ x,v = .ref x ∧ h.InstFk x C mA
theorem Ev.attr {o : Expr} {d : D} {name : Str} {pos : Pos} {v : Value} (S : En prog w B names env h M ρ μ) (ho : Ev prog w A h o env (PS prog w M d)) (I : Y3 prog w d C mA) (X : ClsAt B C N mN) (hb : attributeBase o name env (eval o env) = eval o env)
  (hv : mA name = some v) (hng : mN "__getattribute__" = none) (hna : mN name = none) (hB : typeLookup (.type "object") name = pure none) (hh : handedOut v = pure v) :
  Ev prog w A h (.Attribute o name pos) env (fun _ u => u = v):=by
 intro s E Q kx hQ
 rw [arm_eval_Attribute,hb]
 refine wpAny_bind (ho s E _ kx fun ov s₁ k₁ r => wpAny_bind (wpAny_standAt (wpAny_bind (wpAny_holding ?_))))
 obtain ⟨x,rfl,ix⟩:=I _ _ _ r
 obtain ⟨nm,q,bs,sn,sub,col,dd,k0,k1,k2,k3,k5,hC⟩:=(X.keeps (S.base.trans (kx.trans (ke k₁)))).obj
 refine load_attrFk hC (X.keeps (S.base.trans (kx.trans (ke k₁)))).ns hng hna hB ix hv hh ?_
 refine wpAny_bind (wpAny_letTemporaryGo (wpAny_pure ?_))
 exact hQ v _ (zA k₁ (zL s₁ _)) rfl
theorem kL {o : Expr} {d : D} {dm : Stmt} {name : Str} {apos pos : Pos} {es : List Expr} {rs : List RV} {f : Addr} {fd : FuncData} {y : Option Value} (S : En prog w B names env s.heap M ρ μ) (ho : Ev prog w A s.heap o env (PS prog w M d)) (I : Y3 prog w d C mA) (X : ClsAt B C N mN) (hf : mN name = some (.ref f)) (H : zw B dm f fd)
  (hng : mN "__getattribute__" = none) (hnh : mN "__getattr__" = none) (hB : typeLookup (.type "object") name = pure y) (hsh : mA name = none) (hx : qy prog w A s.heap env M es rs) {pl : Sem Bool} {Q : Value → Shared → Prop}
  (hQ : ∀ x vs s',Keeps s s' → Rp prog w s'.heap M (.ref x) d → zP prog w s'.heap M vs rs → wpAny (model prog w) A (PySem.call (.ref f) (.ref x :: vs)) Q E s')
  (he : eval (.Call (.Attribute o name apos) es [] pos) env = (do
   let ov ← eval o env
   standAt apos.atName
   let (f,first) ← holding [ov] (getMethod ov name pl)
   callWith pos f first (backTo pos (starEach es env)) (backToKw pos (keywordEach [] env)))) :
  wpAny (model prog w) A (eval (.Call (.Attribute o name apos) es [] pos) env) Q E s:=by
 refine methodCall_KW (pl:=pl) (ho s E _ (zS.refl _) fun ov s₁ k₁ r => ?_) he
 obtain ⟨x,rfl,ix⟩:=I _ _ _ r
 have X₁:=X.keeps (S.base.trans (ke k₁))
 obtain ⟨nm,q,bs,sn,sub,col,dd,k0,k1,k2,k3,k5,hC⟩:=X₁.obj
 obtain ⟨fo,hfo,hfd,hfc⟩:=H.get
 refine method_ofFk hC X₁.ns hng hnh hf (S.base.trans (ke k₁) _ _ hfo) hfc hB ix hsh ?_
 refine callWith_of (P:=zS B) (by show ((backTo pos (starEach es env)).any (·.1) || false) = false; rw [hx.noStar]; rfl) (fun h' X' => ya H.keepy h' X') (vm hx (ke k₁) fun vs s₂ k₂ rs => ?_)
 have k12:=zA k₁ k₂
 exact ⟨S.base.trans (ke k12),hQ x vs s₂ k12 (r.ext (ke k₂)) rs⟩
theorem km {o e0 ke0 : Expr} {d : D} {dm : Stmt} {name kn : Str} {apos pos kp : Pos} {es : List Expr} {rs : List RV} {kr : RV} {f : Addr} {fd : FuncData} {y : Option Value} (S : En prog w B names env s.heap M ρ μ) (ho : Ev prog w A s.heap o env (PS prog w M d)) (I : Y3 prog w d C mA) (X : ClsAt B C N mN) (hf : mN name = some (.ref f)) (H : zw B dm f fd)
  (hng : mN "__getattribute__" = none) (hnh : mN "__getattr__" = none) (hB : typeLookup (.type "object") name = pure y) (hsh : mA name = none) (hx : qy prog w A s.heap env M (e0 :: es) rs) (hkw : Ev prog w A s.heap ke0 env (fun h v => zt prog w h M v kr)) {pl : Sem Bool} {Q : Value → Shared → Prop}
  (hst : starEach (e0 :: es) env = (false,eval e0 env) :: starEach es env)
  (hQ : ∀ x vs kv s',Keeps s s' → Rp prog w s'.heap M (.ref x) d → zP prog w s'.heap M vs rs → zt prog w s'.heap M kv kr → wpAny (model prog w) A (PySem.call (.ref f) (.ref x :: vs) [(kn,kv)]) Q E s')
  (he : eval (.Call (.Attribute o name apos) (e0 :: es) [⟨some kn,ke0,kp⟩] pos) env = (do
   let ov ← eval o env
   standAt apos.atName
   let (f,first) ← holding [ov] (getMethod ov name pl)
   callWith pos f first (backTo pos (starEach (e0 :: es) env)) (backToKw pos (keywordEach [⟨some kn,ke0,kp⟩] env)))) :
  wpAny (model prog w) A (eval (.Call (.Attribute o name apos) (e0 :: es) [⟨some kn,ke0,kp⟩] pos) env) Q E s:=by
 refine methodCall_KW (pl:=pl) (ho s E _ (zS.refl _) fun ov s₁ k₁ r => ?_) he
 obtain ⟨x,rfl,ix⟩:=I _ _ _ r
 have X₁:=X.keeps (S.base.trans (ke k₁))
 obtain ⟨nm,q,bs,sn,sub,col,dd,k0,k1,k2,k3,k5,hC⟩:=X₁.obj
 obtain ⟨fo,hfo,hfd,hfc⟩:=H.get
 refine method_ofFk hC X₁.ns hng hnh hf (S.base.trans (ke k₁) _ _ hfo) hfc hB ix hsh ?_
 refine callWith_of (P:=zS B) (by rw [hx.noStar]; rfl) (fun h' X' => ya H.keepy h' X') ?_
 refine evalArgs_kw2 (by rfl) (vi hx s₁ E _ (ke k₁) fun vs s₂ k₂ rs => ?_) hst
 refine kwAll_cons (hkw s₂ E _ (ke (zA k₁ k₂)) fun kv s₃ k₃ rk => kwAll_nil ?_)
 have k13:=zA (zA k₁ k₂) k₃
 exact ⟨S.base.trans (ke k13),hQ x vs kv s₃ k13 (r.ext (ke (zA k₂ k₃))) (rs.ext (ke k₃)) rk⟩
end
theorem w0 : Slot "re.Pattern" "search" "re.Pattern.search" :=
 .of (owner := "re.Pattern") (n := "search") (by rw [typeLookup_type,builtinLookup_eq_fast]; kernel_rfl) (by decide +kernel) (by decide +kernel) (by decide +kernel)
  (by first | exact .inl (by decide +kernel) | exact .inr (by decide +kernel)) (by rw [isSubtype_type]; kernel_rfl)
theorem YW : entryFor table "re.Pattern.search" = some Builtin.«re.Pattern.search»:=entryFor_of_tree (by kernel_rfl)
theorem Y7 (a b : Value) : argsOk "re.Pattern.search" ⟨[a,b],[]⟩:=by unfold argsOk; kernel_rfl
theorem jZ : typeOf (.builtin "re.Pattern.search") = pure (.type "method_descriptor"):=by kernel_rfl
theorem ki : PlainAttrs "re.Pattern" :=
 ⟨⟨"object.__getattribute__",by rw [typeLookup_type,builtinLookup_eq_fast]; kernel_rfl,by decide +kernel⟩,by rw [typeLookup_type,builtinLookup_eq_fast]; kernel_rfl⟩
noncomputable def kz : Nat → Sre.M → Option Sre.M
 | 0,_ => none
 | n + 1,m => if (m.runFor 4).outcome.isSome = true then some (m.runFor 4) else kz n (m.runFor 4)
noncomputable def zg (code : Array Nat) (x : Str) : Bool:=match kz (x.cps.size + 5) (Sre.forSearch code x.cps 0 0 x.cps.size false) with
 | some m => (match m.outcome with | some .failed => true | _ => false)
 | none => false
theorem qK {Q : Sre.M → Shared → Prop} : ∀ (n k : Nat) (m m' : Sre.M),kz n m = some m' → n ≤ k → Q m' s → wpAny (model prog w) A (Builtin.Re.reDrive k m) Q E s
 | 0,_,_,_,h,_,_ => by cases h
 | n + 1,0,_,_,_,h,_ => by omega
 | n + 1,k + 1,m,m',h,hk,hq => by
  rw [kz] at h
  unfold Builtin.Re.reDrive
  show wpAny _ _ (if (m.runFor 4).outcome.isSome = true then pure (m.runFor 4) else (rule "sre.turn" >>= fun _ => Builtin.Re.reDrive k (m.runFor 4))) Q E s
  by_cases ho : (m.runFor 4).outcome.isSome = true
  · rw [if_pos ho] at h ⊢
    cases h
    exact wpAny_pure hq
  · rw [if_neg ho] at h ⊢
    exact wpAny_bind (wpAny_rule (qK n k _ _ h (by omega) hq))
theorem jv (m : Sre.M) {Q : PUnit → Shared → Prop} (hq : Q ⟨⟩ s) : ∀ l : List Nat,wpAny (model prog w) A (forIn l PUnit.unit fun i _ => if m.seen.has i = true then (do rule (Sre.names.getD i ""); pure (ForInStep.yield PUnit.unit)) else pure (ForInStep.yield PUnit.unit)) Q E s
 | [] => by rw [forIn_nil]; exact wpAny_pure hq
 | i :: l => by
  rw [forIn_cons]
  refine wpAny_bind ?_
  by_cases hi : m.seen.has i = true
  · rw [if_pos hi]
    exact wpAny_bind (wpAny_rule (wpAny_pure (jv m hq l)))
  · rw [if_neg hi]
    exact wpAny_pure (jv m hq l)
structure wV (B : Heap) (a : Addr) (code : Array Nat) : Prop where
 ob : ∃ o vs c its n,B.get? a = some o ∧ o.cls = .type "re.Pattern" ∧ o.dict = none ∧ o.data = .fields vs ∧ Builtin.Re.reRawNat (vs.getD 6 .none) = 0 ∧ Builtin.Re.reRawNat (vs.getD 2 .none) = 0 ∧ vs.getD 5 .none = .ref c ∧
  (∃ oc,B.get? c = some oc ∧ oc.data = .seq its n) ∧ (its.map Builtin.Re.reRawOf).map (·.toNat) = code
theorem jD {a : Addr} {code : Array Nat} {x : Str} {t : Tok} {Q : Value → Shared → Prop} (P : wV B a code) (X : zS B s.heap) (hs : x.cps.size < 2 ^ 63)
  (hm : ∀ (r : Builtin.Re.ReTarget),r.code = code → r.text = x.cps → r.groups = 0 → r.pos = 0 → r.lim = x.cps.size → wpAny (model prog w) A.in1 (Builtin.Re.reAnswer r (Sre.forSearch r.code r.text r.groups r.pos r.lim false)) (fun fin s' => ∃ v,fin = .done (.ret v) ∧ Q v s') E s) :
  wpAny (model prog w) A (PySem.call (.builtin "re.Pattern.search") [.ref a,.str x t]) Q E s:=by
 obtain ⟨o,vs,c,its,n,ho,hc,hdi,hd,h6,h2,h5,⟨oc,hoc,hocd⟩,hcode⟩:=P.ob
 have ho':=X _ _ ho
 have hoc':=X _ _ hoc
 refine wpAny_call_entry w0 ⟨o,ho',hc⟩ YW ?_ (Y7 _ _)
 unfold Builtin.«re.Pattern.search» Builtin.Re.reTarget
 refine wpAny_bind ?_
 refine wpAny_bind (m:=Builtin.Re.reNamed _ _ _ _ _ _) (wpAny_of_eq (a:=[some (.str x t),none,none]) (by first | rfl | kernel_rfl!) ?_)
 refine wpAny_bind (wpAny_pure ?_)
 refine wpAny_bind (wpAny_pure ?_)
 refine wpAny_bind (wpAny_fieldsOf ho' hd ?_)
 refine wpAny_bind (m:=Builtin.Re.reTextOf _) (wpAny_of_eq (a:=(x.cps,0)) (by rfl) ?_)
 dsimp only
 rw [h6]
 rw [if_neg (by decide),if_neg (by decide)]
 refine wpAny_bind (m:=Builtin.Re.reNoCollectionInside _ _) (wpAny_of_eq (a:=()) (by rfl) ?_)
 rw [h5]
 unfold Builtin.Re.reRawItems
 refine wpAny_bind (wpAny_bind (wpAny_seqItems hoc' hocd (wpAny_pure (wpAny_pure ?_))))
 refine hm _ hcode rfl h2 (by simp) ?_
 show min ((2 : Int) ^ 63 - 1).toNat x.cps.size = x.cps.size
 have : ((2 : Int) ^ 63 - 1).toNat = 2 ^ 63 - 1:=by decide
 rw [this]
 exact Nat.min_eq_right (Nat.le_sub_one_of_lt hs)
theorem Yz {a : Addr} {code : Array Nat} {x : Str} {t : Tok} {Q : Value → Shared → Prop} (P : wV B a code) (X : zS B s.heap) (hx : zg code x = true) (hs : x.cps.size < 2 ^ 63) (hQ : Q .none s) :
  wpAny (model prog w) A (PySem.call (.builtin "re.Pattern.search") [.ref a,.str x t]) Q E s :=
 jD P X hs (by
  intro r h1 h2 h3 h4 h5
  rw [h1,h2,h3,h4,h5]
  unfold zg at hx
  split at hx
  · rename_i m hm
    unfold Builtin.Re.reAnswer Builtin.Re.reRunToEnd
    refine wpAny_bind (wpAny_bind (qK _ _ _ _ hm (by have : (2 : Nat) ^ 63 + 5 ≤ 2 ^ 64:=(by decide); omega) ?_))
    refine wpAny_bind (jv m ?_ _)
    split at hx
    · rename_i hf
      rw [hf]
      exact wpAny_pure (wpAny_pure ⟨_,rfl,hQ⟩)
    · cases hx
  · cases hx)
theorem Ev.search {xv : Str} {a : Addr} {code : Array Nat} {x : Str} {e : Expr} {xp apos pos : Pos} (S : En prog w B names env h M ρ μ) (R : Rm A 0) (hm : (xv,RV.val (.ref a)) ∈ ρ) (hdb : (xv == ("__debug__" : Str)) = false) (P : wV B a code) (he : Ev prog w A h e env (PR prog w M (.str x)))
  (hx : zg code x = true) (hs : x.cps.size < 2 ^ 63) (hst : ∀ rest,starEach (e :: rest) env = (false,eval e env) :: starEach rest env) (hline : (apos.endLine == pos.line) = true) :
  Ev prog w A h (.Call (.Attribute (.Name xv xp) (ofString "search") apos) [e] [] pos) env (PS prog w M .none):=by
 obtain ⟨o,vs,c,its,n,ho,hc,hdi,r⟩:=P.ob
 refine Ev.methO S R (a:=a) (ob:=o) (ds:=[.str x]) (Ev.mono (Ev.var S hm hdb) fun _ _ z => z) ho hc hdi ki w0 jZ (.cons he .nil hst) (by rfl) (by rfl) hline ?_
 intro A M s E Q vs _ X old rs hQ
 obtain ⟨v,rfl,rv⟩:=rs.one_inv
 obtain ⟨t,rfl⟩:=rv.str_inv
 exact Yz P X hx hs (hQ _ _ (zF s) .none)
theorem zG.type (x : Str) : zG prog w k B (.type "type") [.str x] (.typ "str"):=by
 intro A M s E Q vs R X old rs hQ
 obtain ⟨v,rfl,r⟩:=rs.one_inv
 obtain ⟨t,rfl⟩:=r.str_inv
 exact call_type_of (Tx := "str") (x:=.str x t) rfl (by decide) (hQ _ _ (zF s) (.typ _))
theorem zG.typeL (xs : List D) : zG prog w k B (.type "type") [.list xs] (.typ "list"):=by
 intro A M s E Q vs R X old rs hQ
 obtain ⟨v,rfl,r⟩:=rs.one_inv
 obtain ⟨a,us,rfl,⟨n,p⟩,_⟩:=r.list_inv
 exact call_type_of (Tx := "list") (x:=.ref a) (show s.TypeIs (.ref a) "list" from ⟨_,p,rfl⟩) (by decide) (hQ _ _ (zF s) (.typ _))
noncomputable abbrev vv : Obj:={ cls:=.type "dict",data:=.dict #[] }
theorem Kh {a : Addr} (e : h.get? a = some vv) : h.DictAt (strKind prog w) a [] 0 :=
 ⟨_,#[],e,⟨rfl,rfl,rfl⟩,rfl,fun _ he => absurd he (by simp),.nil,nodup_nil⟩
theorem qB {target : Expr} {body : List Stmt} {x : Str} {xp apos cpos pos : Pos} {a : Addr} (S : St prog w B s₀ Own₀ M₀ names env Own M ρ μ s) (R : Rm A 0) (hm : (x,RV.dat (.ob a vv)) ∈ ρ) (hdb : (x == ("__debug__" : Str)) = false) (hl : (apos.endLine == cpos.line) = true) (hsys : (a == sysModules) = false)
  (hfs : ∀ y,foldedSetIterable (.Call (.Attribute (.Name x xp) (ofString "items") apos) [] [] cpos) env y = pure y)
  (k : ∀ s',St prog w B s₀ Own₀ M₀ names env Own M ρ μ s' → wpAny (model prog w) A (execs rest env) Q E s') :
  wpAny (model prog w) A (execs (.For target (.Call (.Attribute (.Name x xp) (ofString "items") apos) [] [] cpos) body [] pos :: rest) env) Q E s:=by
 obtain ⟨v,hv,hr⟩:=S.e.vars x _ hm
 obtain ⟨rfl,ea,ma⟩:=Rp.ob_inv hr
 have hd:=Kh (prog:=prog) (w:=w) ea
 refine wpAny_execs_cons (wpAny_For (wpAny_Call_items (knd:=strKind prog w) (kvs:=[]) hsys hd.dictOf rfl hl (fun Q' hq => YT S.e.n hv hdb hq) ?_) hfs)
 refine wpAny_pyIter_items (knd:=strKind prog w) (d:=a) (kvs:=[]) (ep:=0) ⟨_,get?_push_size _ rfl,rfl,rfl⟩ (hd.push _) ?_
 refine codeAny_forLoop_any (fun n s' => s' = { s with heap:=(s.heap.push { cls:=.type "dict_items",data:=.fields #[.ref a] }).push { cls:=.type "dict_itemiterator",data:=.fields #[.none,.bool false,.ref a,.int 0 0,.int ([] : List (Str × Value)).length 0,.int 0 0,.none,.none] } }) ?_ 0 rfl
 rintro n s' rfl
 refine wpAny_pyNext_items_end (knd:=strKind prog w) (i:=0) (kvs:=[]) (ep:=0) (ok:=.none) (ov:=.none) R.hh (get?_push_size _ rfl) ((hd.push _).push _) rfl fun h' he => wpAny_execs_nil ?_
 refine k _ (S.step ⟨h',s.toks,rfl,fun b o e => he b o ?_ (get?_push_of_some _ (get?_push_of_some _ e))⟩)
 rw [Heap.size_push]
 exact ne_of_lt (lt_succ_of_lt (lt_size e))
theorem Ev.ifExpR {t x y : Expr} {p : Pos} {b : Bool} {R : Heap → Value → Prop} (ht : Tv prog w A h t env b) (hx : b = true → Ev prog w A h x env R) (hy : b = false → Ev prog w A h y env R) : Ev prog w A h (.IfExp t x y p) env R:=by
 intro s E Q k hQ
 refine wpAny_IfExp (ht s E _ k fun s₁ k₁ => ?_)
 cases b with
 | true => exact hx rfl s₁ E Q (k.trans (ke k₁)) fun u s₃ k₃ q => hQ u s₃ (zA k₁ k₃) q
 | false => exact hy rfl s₁ E Q (k.trans (ke k₁)) fun u s₃ k₃ q => hQ u s₃ (zA k₁ k₃) q
theorem Ev.place {o : Expr} {a : Addr} {d : D} (S : En prog w B names env h M ρ μ) (ho : Ev prog w A h o env (fun _ u => u = .ref a)) (hc : (a,d) ∈ μ) : Ev prog w A h o env (PR prog w M d):=by
 intro s E Q k hQ
 exact ho s E Q k fun v s' ks r => hQ v s' ks (.inr ⟨a,r,(S.mem a d hc).ext (k.trans (ke ks))⟩)
theorem KT {k : Nat} (S : St prog w B s₀ Own₀ M₀ names env Own M ρ μ s) (R : Rm A k) {o : Expr} {apos pos pos2 : Pos} {name : Str} {T id : String} {es : List Expr} {a : Addr} {d d' : D} {ds : List D} {pre post : List (Addr × D)}
   (hov : Ev prog w A s.heap o env (fun _ u => u = .ref a)) (hμ : μ = pre ++ (a,d) :: post) (ho : Own a) (hT : tyD d = some T) (pa : PlainAttrs T) (slot : Slot T name id) (hty : typeOf (.builtin id) = pure (.type "method_descriptor"))
   (hx : Zr prog w A s.heap env M es ds) (hbase : attributeBase o name env (eval o env) = eval o env) (hfew : decide (es.length + 0 + 0 < 30) = true) (hline : (apos.endLine == pos.line) = true) (hc : wI prog w k (.builtin id) d ds d' .none)
   (hs : swapsWith (.Call (.Attribute o name apos) es [] pos) none pos2.line env = pure false)
   (hQ : ∀ s',St prog w B s₀ Own₀ M₀ names env Own M ρ (pre ++ (a,d') :: post) s' → wpAny (model prog w) A (execs rest env) Q E s') :
   wpAny (model prog w) A (execs (.Expr (.Call (.Attribute o name apos) es [] pos) pos2 :: rest) env) Q E s:=by
 refine xf S.e.n ?_ hs
 have hc0:=S.e.mem a d (by rw [hμ]; simp)
 refine wpAny_Call_method hbase ?_ hline pa slot hty (hov s E _ (zS.refl _) fun ov s₁ k₁ r => ?_)
 · rw [hx.rd.few]; exact hfew
 subst r
 have rr : Rd prog w s₁.heap M (.ref a) d:=.inr ⟨a,rfl,hc0.ext (ke k₁)⟩
 refine ⟨(wE hT rr).1,(wE hT rr).2, ?_⟩
 refine PySem.Calls.callWith_builtin hx.rd.noStar ?_
 refine wS hx (ke k₁) fun vs s₂ k₂ rs => ?_
 have S₂:=S.step (zA k₁ k₂)
 refine hc A M s₂ E _ a vs R (S.own a ho) (hc0.ext ((ke k₁).trans (ke k₂))) rs fun v s' ef c' rv => hQ s' ?_
 obtain ⟨h',tk,rfl,kk⟩:=ef
 exact S₂.effect1 hμ ho (fun b o n e => kk b o (by simpa using n) e) c'
theorem kK.ev {e : Expr} {xs : List D} (S : En prog w B names env h M ρ μ) (x : kK prog w A h e env M (.list xs)) : Ev prog w A h e env (PS prog w M (.list xs)):=by
 intro s E Q k hQ
 refine x s E Q k fun a s' ks n c => hQ _ s' ks ?_
 obtain ⟨vs,p,q⟩:=c.list_inv
 refine .list p (fun m => ?_) (q.less fun b m => .inl m)
 obtain ⟨o,e⟩:=S.old a m
 rw [k _ _ e] at n; cases n
theorem kK.slice {value : Expr} {lower upper step : Option Expr} {p pos : Pos} {xs : List D} {lo hi st : Option Int} (S : En prog w B names env h M ρ μ)
   (hv : Ev prog w A h value env (PR prog w M (.list xs))) (hl : zY prog w A h M lower env lo) (hu : zY prog w A h M upper env hi) (hs : zY prog w A h M step env st) (h0 : st ≠ some 0) (hsz : xs.length ≤ sizeLine) :
   kK prog w A h (.Subscript value (.Slice lower upper step p) pos) env M (.list (zf xs lo hi st)):=by
 intro s E Q k hQ
 refine Subscript_ (hv s E _ k fun o s₁ k₁ ro => wpAny_Slice ?_)
 refine hl s₁ E _ (k.trans (ke k₁)) fun vl s₂ k₂ pl => ?_
 refine hu s₂ E _ (k.trans ((ke k₁).trans (ke k₂))) fun vu s₃ k₃ pu => ?_
 refine hs s₃ E _ (k.trans ((ke k₁).trans ((ke k₂).trans (ke k₃)))) fun vst s₄ k₄ pst => ?_
 obtain ⟨a,vs,rfl,pl',q⟩:=(((ro.ext (ke k₂)).ext (ke k₃)).ext (ke k₄)).list_inv
 have kk:=zA k₁ (zA k₂ (zA k₃ k₄))
 have pl2 : (s₄.heap.push { cls:=.type "slice",data:=.fields #[vl,vu,vst] }).PlainList a vs.toArray:=pl'.at fun o e => get?_push_of_some _ e
 obtain ⟨ops,hso⟩:=zx (.Slice lower upper step p) (.ref a) (.ref s₄.heap.objs.size)
 have k5:=zA kk (zM s₄ { cls:=.type "slice",data:=.fields #[vl,vu,vst] } s₄.toks)
 refine tail_any (s:={ s₄ with heap:=s₄.heap.push { cls:=.type "slice",data:=.fields #[vl,vu,vst] } }) pl2.isList.typeIs slot_list_getitem.lookup
   (wpAny_getItem_list_slice pl2.isList (Heap.IsSliceOf.new ..) pl pu pst h0 (hQ _ _ (zA k5 (zM _ _ s₄.toks)) (z9 k5 (zc _)) ?_) (by rw [size_toArray,q.length]; exact hsz)) hso
 have e : slicePick vs.toArray lo hi st = (zf vs lo hi st).toArray:=by
   unfold slicePick zf
   simp
 rw [e]
 refine .list (vs:=zf vs lo hi st) ⟨0,get?_push_size _ rfl⟩ (zH.to (h:=(s₄.heap.push { cls:=.type "slice",data:=.fields #[vl,vu,vst] })) (fun a o m e => ⟨get?_push_of_some _ e,fun z => z.elim m fun z => by rw [z,zc] at e; cases e⟩) ?_)
 · unfold zf
   rw [q.length]
   exact (q.pick _).ext fun _ _ e => get?_push_of_some _ e
section
variable {Q : Value → Shared → Prop}
theorem wo (G : Gl B mg mb) {d : Stmt} {f : Addr} {fd : FuncData} (H : zw B d f fd) {args : Args} {binds : List (Str × Value)} (hb : BindsTo s fd args binds) (hn : (binds.map (·.1)).Nodup) (hk : (binds.all fun p => zT (zR d).names p.1) = true) (R : Rm A (k + 1)) (X : zS B s.heap) (hold : ∀ a,M₁ a → ∃ o,s.heap.get? a = some o)
   (Own₀ : Addr → Prop) (hO : ∀ a,Own₀ a → M₁ a ∧ B.get? a = none) (ρ₀ : List (Str × RV)) (hρ : ∀ x r,(x,r) ∈ ρ₀ → ∃ v,(x,v) ∈ binds ∧ zt prog w s.heap M₁ v r) (μ₀ : List (Addr × D)) (hμ : ∀ a d,(a,d) ∈ μ₀ → zd prog w s.heap M₁ a d) (hnd : (μ₀.map (·.1)).Nodup)
   (run : ∀ env Own M s₁,(∃ L,env = zW fd L f) → Rm (A.deeper env) k → (∀ a,Own₀ a → Own a) → (∀ a,M a → M₁ a ∨ s.heap.get? a = none) → St prog w B s Own₀ M₁ (zR d).names env Own M ρ₀ μ₀ s₁ →
    wpAny (model prog w) (A.deeper env) (execs (zB d) env) (fun fl s' => Q (match fl with | .ret v => v | _ => .none) s') (fun _ _ => False) s₁) :
   wpAny (model prog w) A (PySem.call (.ref f) args.pos args.kw) Q E s:=by
 obtain ⟨o,ho,hd,_⟩:=H.get
 refine wpAny_call (jV (M₀:=M₁) (Own₀:=Own₀) (B:=B) H.ok R (X f o ho) hd G.lim X (zi H.code X) H.body hb hn ?_ hold hO (fun x c e => by rw [H.clo] at e; cases e) ρ₀ (fun x r hm => .inl (hρ x r hm)) μ₀ hμ hnd ?_)
 · rw [H.scope]; exact hk
 · intro env Own M s₁ hL R' hO' hMM S
   rw [H.scope] at S
   exact wpAny_mono (run env Own M s₁ hL R' hO' hMM S) (fun fl s' q => q) fun _ _ x => x.elim
theorem JK (G : Gl B mg mb) {d : Stmt} {f : Addr} {fd : FuncData} (H : zw B d f fd) {sa : Shared} {args : Args} {binds : List (Str × Value)} (hka : Keeps sa s) (hb : ∀ (M : Model) (A : Around) (E : Value → Shared → Prop) (Q : List (Str × Value) → Shared → Prop),Q binds s → wpAny M A (bindArgs fd args) Q E sa) (hn : (binds.map (·.1)).Nodup) (hk : (binds.all fun p => zT (zR d).names p.1) = true) (R : Rm A (k + 1)) (X : zS B sa.heap) (hold : ∀ a,M₁ a → ∃ o,s.heap.get? a = some o)
   (Own₀ : Addr → Prop) (hO : ∀ a,Own₀ a → M₁ a ∧ B.get? a = none) (ρ₀ : List (Str × RV)) (hρ : ∀ x r,(x,r) ∈ ρ₀ → ∃ v,(x,v) ∈ binds ∧ zt prog w s.heap M₁ v r) (μ₀ : List (Addr × D)) (hμ : ∀ a d,(a,d) ∈ μ₀ → zd prog w s.heap M₁ a d) (hnd : (μ₀.map (·.1)).Nodup)
   (run : ∀ env Own M s₁,(∃ L,env = zW fd L f) → Rm (A.deeper env) k → (∀ a,Own₀ a → Own a) → (∀ a,M a → M₁ a ∨ s.heap.get? a = none) → St prog w B s Own₀ M₁ (zR d).names env Own M ρ₀ μ₀ s₁ →
    wpAny (model prog w) (A.deeper env) (execs (zB d) env) (fun fl s' => Q (match fl with | .ret v => v | _ => .none) s') (fun _ _ => False) s₁) :
   wpAny (model prog w) A (PySem.call (.ref f) args.pos args.kw) Q E sa:=by
 obtain ⟨o,ho,hd,_⟩:=H.get
 refine wpAny_call (Qw (M₀:=M₁) (Own₀:=Own₀) (B:=B) H.ok R (X f o ho) hd G.lim (X.trans (ke hka)) (zi H.code X) H.body hb hn ?_ hold hO (fun x c e => by rw [H.clo] at e; cases e) ρ₀ (fun x r hm => .inl (hρ x r hm)) μ₀ hμ hnd ?_)
 · rw [H.scope]; exact hk
 · intro env Own M s₁ hL R' hO' hMM S
   rw [H.scope] at S
   exact wpAny_mono (run env Own M s₁ hL R' hO' hMM S) (fun fl s' q => q) fun _ _ x => x.elim
end
theorem St.keeps (S : St prog w B s₀ (fun _ => False) M₀ names env Own M ρ μ s) : Keeps s₀ s:=by
 obtain ⟨h',tk,e⟩:=S.same
 refine ⟨h',tk,e,fun a o q => ?_⟩
 have:=S.keep a o (fun x => x) q
 rw [e] at this; exact this
theorem St.eff {L : Addr} (S : St prog w B s₀ (fun a => a = L) M₀ names env Own M ρ μ s) : Xj [L] s₀ s:=by
 obtain ⟨h',tk,e⟩:=S.same
 refine ⟨h',tk,e,fun a o n q => ?_⟩
 have:=S.keep a o (by simpa using n) q
 rw [e] at this; exact this
theorem zG.index (xs : List Str) (x : Str) (j : Nat) (hj : xs[j]? = some x) (hno : ∀ i < j,xs[i]? ≠ some x) (hz : xs.length ≤ 1000) : zG prog w k B (.builtin "list.index") [.list (xs.map .str),.str x] (.int j):=by
 intro A M s E Q vs R X old rs hQ
 obtain ⟨v,u,rfl,r1,r2⟩:=rs.two_inv
 obtain ⟨a,us,rfl,⟨n,p⟩,q⟩:=r1.list_inv
 obtain ⟨t,rfl⟩:=r2.str_inv
 have hlen:=q.length
 rw [length_map] at hlen
 have hjl : j < xs.length:=(List.getElem?_eq_some_iff.mp hj).1
 have at' : ∀ (i : Nat) (hi : i < us.toArray.size),∃ t',us.toArray[i] = .str xs[i] t':=fun i hi => by
   have hi' : i < xs.length:=by simpa [hlen] using hi
   obtain ⟨v,e,r⟩:=q.get (i:=i) (d:=.str xs[i]) (by simp [hi'])
   obtain ⟨t',rfl⟩:=r.str_inv
   refine ⟨t', ?_⟩
   have : us.toArray[i]? = some (.str xs[i] t'):=by simpa using e
   rw [Array.getElem?_eq_getElem hi] at this
   exact Option.some.inj this
 have hja : j < us.toArray.size:=by simpa [hlen] using hjl
 refine call_meets F.slot_list_index ⟨_,p,rfl⟩ F.entry_list_index (F.args_list_index_2 _ _) (SeqAt.list_indexAt a us.toArray n none #[] (.str x t) (fun v => match v with | .str y _ => y == x | _ => false) j hja (by omega) ?_ ?_) ⟨p, ?_,hQ _ _ (zL s _) (.int _ _)⟩
 · obtain ⟨t',e⟩:=at' j hja
   have : xs[j] = x:=by have:=hj; rw [getElem?_eq_getElem hjl] at this; exact Option.some.inj this
   rw [e]; simp [this]
 · intro m hm hmj
   obtain ⟨t',e⟩:=at' m hm
   have hm' : m < xs.length:=by simpa [hlen] using hm
   have:=hno m hmj
   rw [getElem?_eq_getElem hm'] at this
   rw [e]
   simpa using fun z => this (by rw [z])
 · intro y hy
   have hy' : y ∈ us:=by simpa using hy
   obtain ⟨d,hd,r⟩:=q.mem hy'
   obtain ⟨z,_,rfl⟩:=mem_map.mp hd
   obtain ⟨t',rfl⟩:=r.str_inv
   exact (PyProof.Rows.eqGives_str z x t' t).at _ _
theorem Clo.hide {scope : Scope} {cl : List (Str × Addr)} {wr : List Addr} (K : Clo prog w h M scope ρ cl) (hw : ∀ a ∈ wr,M a ∧ ∀ v,¬ h.IsCell a v) : Clo prog w (hideAll h wr) M scope ρ cl:=by
 have hc : ∀ c v,h.IsCell c v → (hideAll h wr).IsCell c v:=fun c v q => by
   have n : c ∉ wr:=fun z => (hw c z).2 v q
   obtain ⟨o,e,d⟩:=q
   exact ⟨o,hideAll_get _ e n,d⟩
 refine ⟨fun x c e => ?_,fun x r hm => ?_,K.free,K.apart⟩
 · obtain ⟨v,q⟩:=K.has x c e; exact ⟨v,hc c v q⟩
 · obtain ⟨c,v,e1,e2,e3,e4⟩:=K.cap x r hm
   exact ⟨c,v,e1,hc c _ e2,e3.to fun a o n e => ⟨hideAll_get _ e fun z => n (hw a z).1,n⟩,e4⟩
theorem Ev.imeth {C N : Addr} {mN mA : Str → Option Value} {o : Expr} {d r : D} {dm : Stmt} {name : Str} {apos pos : Pos} {es : List Expr} {rs : List RV} {f : Addr} {fd : FuncData} {y : Option Value} (S : En prog w B names env h M ρ μ) (ho : Ev prog w A h o env (PS prog w M d)) (I : Y3 prog w d C mA) (X : ClsAt B C N mN) (hf : mN name = some (.ref f)) (H : zw B dm f fd)
  (hng : mN "__getattribute__" = none) (hnh : mN "__getattr__" = none) (hB : typeLookup (.type "object") name = pure y) (hsh : mA name = none) (hx : qy prog w A h env M es rs) {pl : Sem Bool}
  (hcall : ∀ x vs s E Q,zS h s.heap → (∀ a,M a → ∃ o,s.heap.get? a = some o) → zS B s.heap → Rp prog w s.heap M (.ref x) d → zP prog w s.heap M vs rs → (∀ v s',Keeps s s' → Rp prog w s'.heap M v r → Q v s') → wpAny (model prog w) A (PySem.call (.ref f) (.ref x :: vs)) Q E s)
  (he : eval (.Call (.Attribute o name apos) es [] pos) env = (do
   let ov ← eval o env
   standAt apos.atName
   let (f,first) ← holding [ov] (getMethod ov name pl)
   callWith pos f first (backTo pos (starEach es env)) (backToKw pos (keywordEach [] env)))) :
  Ev prog w A h (.Call (.Attribute o name apos) es [] pos) env (PS prog w M r):=by
 intro s E Q kx hQ
 have hxk : qy prog w A s.heap env M es rs:=by
  clear he hcall
  induction hx with
  | nil => exact .nil
  | cons a _ b ih => exact .cons (a.ext kx) ih b
 refine kL (S.ext kx) (ho.ext kx) I X hf H hng hnh hB hsh hxk (fun x vs s' ks rx rs => ?_) he
 refine hcall x vs s' E Q (kx.trans (ke ks)) (fun a m => by obtain ⟨o,e⟩:=S.old a m; exact ⟨o,ke ks _ _ (kx _ _ e)⟩) (S.base.trans (kx.trans (ke ks))) rx rs fun v s'' k' rv => hQ v s'' (zA ks k') rv
theorem zBl {α β γ δ ε ζ : Type} (a : Sem α) (b : Sem β) (c : α → Sem γ) (d : γ → Sem δ) (e : δ → Sem ε) (k : Sem ζ) : ((a >>= fun x => b >>= fun _ => c x >>= fun y => d y >>= fun z => e z >>= fun _ => pure ()) >>= fun (_ : Unit) => k) = (a >>= fun x => b >>= fun _ => c x >>= fun y => d y >>= fun z => e z >>= fun _ => k):=by simp only [bind_assoc,pure_bind]
theorem VY (elt t1 i1 t2 i2 : Expr) (scope : Scope) (pos : Pos) (acc : Value) (env' : Env) : vA (.ListComp elt [⟨t1,i1,[],0⟩,⟨t2,i2,[],0⟩] scope pos) 0 t1 i1 acc env'
   (do
    let x ← eval i2 env'
    standAt i2.pos
    let x ← foldedSetIterable i2 env' x
    let _ ← runOwn (.compStart (.ListComp elt [⟨t1,i1,[],0⟩,⟨t2,i2,[],0⟩] scope pos) 1 (← holding [x] (pyIter x)) acc env') env'):=by
 intro it
 refine congrArg (standAt i1.pos >>= ·) (funext fun _ => congrArg (pyNext it >>= ·) (funext fun o => ?_))
 cases o
 · rfl
 · rename_i v
   refine congrArg (letOwnedTupleGo t1 it v >>= ·) (funext fun _ => congrArg (assign t1 env' v >>= ·) (funext fun _ => ?_))
   exact (zBl (eval i2 env') (standAt i2.pos) (foldedSetIterable i2 env') (fun x => holding [x] (pyIter x)) (fun y => runOwn (.compStart (.ListComp elt [⟨t1,i1,[],0⟩,⟨t2,i2,[],0⟩] scope pos) 1 y acc env') env') (again (.compLoop (.ListComp elt [⟨t1,i1,[],0⟩,⟨t2,i2,[],0⟩] scope pos) 0 it acc env'))).symm
theorem VZ (elt t1 i1 t2 i2 : Expr) (scope : Scope) (pos : Pos) (acc : Value) (env' : Env) : vA (.ListComp elt [⟨t1,i1,[],0⟩,⟨t2,i2,[],0⟩] scope pos) 1 t2 i2 acc env' (do let _ ← call (.builtin "list.append") [acc,← eval elt env']):=by
 intro it; rfl
theorem ZO {elt t1 i1 t2 i2 : Expr} {scope : Scope} {pos : Pos} {it acc : Value} {env' : Env} {R : Result → Shared → Prop} {s : Shared}
   (h0 : codeAny (model prog w) A (.compLoop (.ListComp elt [⟨t1,i1,[],0⟩,⟨t2,i2,[],0⟩] scope pos) 1 it acc env') R s)
   (h : wpAny (model prog w) A (pyIter it) (fun it' s' => codeAny (model prog w) A (.compLoop (.ListComp elt [⟨t1,i1,[],0⟩,⟨t2,i2,[],0⟩] scope pos) 1 it' acc env') R s') (notedBy (model prog w) A env' fun x s' => R (.error x) s') s) :
   codeAny (model prog w) A (.compStart (.ListComp elt [⟨t1,i1,[],0⟩,⟨t2,i2,[],0⟩] scope pos) 1 it acc env') R s:=by
 refine codeAny_of_tree ?_
 show wpAny _ _ ((compStart (.ListComp elt [⟨t1,i1,[],0⟩,⟨t2,i2,[],0⟩] scope pos) 1 it acc env').onRaise (fun x => do noteFrame x env'; standAt theWindowsPlace)) _ _ s
 refine wpAny_notedAt ?_
 unfold compStart
 show wpAny _ _ (ask >>= _) _ _ s
 refine wpAny_bind (wpAny_askSetting (wpAny_ite ?_))
 split
 · first
    | exact wpAny_bind (wpAny_pure (wpAny_pure (And.intro rfl h0)))
    | exact wpAny_pure (And.intro rfl h0)
 · first
    | exact wpAny_bind (wpAny_rule (wpAny_bind (wpAny_standAt (wpAny_bind (wpAny_mono h (fun it' s' h' => wpAny_pure (And.intro rfl h')) fun _ _ x => x)))))
    | (refine wpAny_bind (wpAny_rule ?_); show wpAny _ _ (standAt i2.pos >>= _) _ _ s; exact wpAny_bind (wpAny_standAt (wpAny_bind (wpAny_mono h (fun it' s' h' => wpAny_pure (And.intro rfl h')) fun _ _ x => x))))
noncomputable def Q6 (prog : Program) (w : World) (A : Around) (e : Expr) (scope : Scope) (iter : Expr) (env : Env) (M : Addr → Prop) {σ : Type} (Z : Shared → σ → Prop) (d : D) (s : Shared) : Prop :=
 ∀ (use : Option (Value → Sem Unit)) (E Q : Value → Shared → Prop) (pos' : Pos),(∀ s₁ c acc C s',Z s₁ c → Keeps s₁ s' → s₁.heap.get? C = none → (∃ m,s'.heap.Ns C m) → Rp prog w s'.heap (fun a => M a ∨ a = C) acc d → compPost (model prog w) A E use Q acc C (.ok .next) s') →
  wpAny (model prog w) A (comprehension e scope env pos' (newList []) false (eval iter env) use) Q E s
theorem J4 {s s' : Shared} : Xj [] s s' → Keeps s s':=fun ⟨h',tk,e,k⟩ => ⟨h',tk,e,fun a o q => k a o (by simp) q⟩
theorem Kq {α β σ : Type} {names : zE} {scope : Scope} {ρ : List (Str × RV)} {μ : σ → List (Addr × D)} {elt target iter t2 i2 : Expr} {pos : Pos} {dsrc : D} {Z : Shared → σ → Prop} {s : Shared}
   (N₀ : vq names env) (R : Rm A 0) (hc : yQ names scope = true) (ys : List α) (g : α → D) (hs : zj dsrc (ys.map g)) (bs : α → List (Str × RV)) (d2 : α → D) (zs : α → List β) (g2 : β → D) (bs2 : β → List (Str × RV)) (f : α → β → D)
   (hasg : ∀ y ∈ ys,wu prog w scope.names target (g y) (bs y)) (hapart : ∀ y ∈ ys,∀ x r,(x,r) ∈ bs y → scope.names.lookup x ≠ some .free) (hfs : ∀ x,foldedSetIterable iter env x = pure x)
   (hs2 : ∀ y ∈ ys,zj (d2 y) ((zs y).map g2)) (hasg2 : ∀ y ∈ ys,∀ z ∈ zs y,wu prog w scope.names t2 (g2 z) (bs2 z)) (hapart2 : ∀ y ∈ ys,∀ z ∈ zs y,∀ x r,(x,r) ∈ bs2 z → scope.names.lookup x ≠ some .free) (hoff : ∀ y ∈ ys,∀ z ∈ zs y,∀ x r,(x,r) ∈ bs y → ∀ r',(x,r') ∉ bs2 z)
   (hfs2 : ∀ env x,foldedSetIterable i2 env x = pure x) (hsz : (ys.flatMap fun y => (zs y).map (f y)).length ≤ sizeLine)
   (hμ : ∀ c c' a d,(a,d) ∈ μ c → ∃ d',(a,d') ∈ μ c')
   (hsrc : ∀ E,wpAny (model prog w) A (eval iter env) (fun xv s₁ => ∃ c₀,Z s₁ c₀ ∧ En prog w B names env s₁.heap M ρ (μ c₀) ∧ Rp prog w s₁.heap M xv dsrc) E s)
   (ev2 : ∀ y ∈ ys,∀ c env' h' M',En prog w B scope.names env' h' M' (bs y ++ xa scope.names ρ) (μ c) → Ev prog w A h' i2 env' (PS prog w M' (d2 y)))
   (turn : ∀ y ∈ ys,∀ z ∈ zs y,∀ c env' h' M',En prog w B scope.names env' h' M' (bs2 z ++ (bs y ++ xa scope.names ρ)) (μ c) → Ev prog w A h' elt env' (PS prog w M' (f y z))) :
   Q6 prog w A (.ListComp elt [⟨target,iter,[],0⟩,⟨t2,i2,[],0⟩] scope pos) scope iter env M Z (.list (ys.flatMap fun y => (zs y).map (f y))) s:=by
 intro use E Q pos' hQ
 have hlen : ∀ i,((ys.take i).flatMap fun y => (zs y).map (f y)).length ≤ (ys.flatMap fun y => (zs y).map (f y)).length:=fun i => by
   conv => rhs; rw [← List.take_append_drop i ys,List.flatMap_append,length_append]
   omega
 refine ZC (B:=B) (M:=M) (ρ:=ρ) (dsrc:=dsrc) (Z:=Z) (W:=[]) (μ:=μ) (Pc:=fun i _ outs => outs = (ys.take i).flatMap fun y => (zs y).map (f y)) N₀ R hc ys g hs bs _ (VY elt target iter t2 i2 scope pos) hasg hapart hfs (fun a m => by cases m) (fun c a m => by cases m) hμ (wpAny_mono (hsrc E) (fun xv s₁ q => ?_) fun _ _ x => x) ?_ ?_
 · obtain ⟨c₀,q1,q2,q3⟩:=q
   exact ⟨c₀,q1,rfl,q2,.inl q3,fun a m => by cases m⟩
 · intro s₁ c₀ hz i y c outs s₂ env' M' T D E' _ _ hy hP hMM hMn k hT hTM hTB hDF hDW hWF hpl hcl hcap hE F hacc
   have hmy : y ∈ ys:=mem_of_getElem? hy
   subst hP
   have hnext : ((ys.take (i + 1)).flatMap fun y => (zs y).map (f y)) = ((ys.take i).flatMap fun y => (zs y).map (f y)) ++ (zs y).map (f y):=by
    rw [take_add_one,hy]; simp
   refine wpAny_bind (ev2 y hmy c env' _ M' hE s₂ E' _ (zS.refl _) fun xv s₃ k₃ rx => wpAny_bind (wpAny_standAt (wpAny_bind ?_)))
   rw [hfs2]
   refine wpAny_pure (wpAny_bind (wpAny_holding ?_))
   refine qS R.hh (hs2 y hmy) (.inl rx) fun I fp wr P St s₄ src stay k₄ => ?_
   refine wpAny_bind (wpAny_runOwn ?_ (by intro h; cases h))
   have hE₃:=hE.ext (ke k₃)
   have k23:=zA k₃ k₄
   obtain ⟨vs,hl,hr⟩:=hacc
   have loop : codeAny (model prog w) A (.compLoop (.ListComp elt [⟨target,iter,[],0⟩,⟨t2,i2,[],0⟩] scope pos) 1 (.ref I) (.ref D) env') (fun r s' => match r with
      | .ok _ => wpAny (model prog w) A (pure ()) (fun _ s' => ∃ c' outs',outs' = ((ys.take (i + 1)).flatMap fun y => (zs y).map (f y)) ∧ vZ prog w scope.names env' M' T D (μ c') [] outs' s₂ s') E' s'
      | .error e => cameBackBy (model prog w) A env' E' e s') s₄:=by
    have hlive : ∀ a,M' a → ∃ o,s₃.heap.get? a = some o:=hE₃.old
    have kT : ∀ a o,¬ T a → s₁.heap.get? a = some o → s₃.heap.get? a = some o:=fun a o t e => ke k₃ a o (k a o t e)
    refine k6 (h:=s₃.heap) (M:=M') (M':=fun a => M' a ∨ T a ∨ a ∈ wr) (T:=T) (W:=[]) (ρ:=ρ) (μ:=fun _ : Unit => μ c) (bs:=bs2) (F:=fun _ _ _ => []) (c₀:=()) (ρx:=bs y) (outs₀:=(ys.take i).flatMap fun y => (zs y).map (f y)) (Pc:=fun j _ outs => outs = ((ys.take i).flatMap fun y => (zs y).map (f y)) ++ ((zs y).take j).map (f y))
      (VZ elt target iter t2 i2 scope pos _ env') hE.n R.hh src (fun a => Iff.rfl) hT hE₃.base hlive (fun a o t _ => hTM a t) hTB (fun a t m => ?_) hDF hDW hWF (fun c a m => by cases m) (fun _ a d m => ⟨(hpl c a d m).2,yR (hE₃.mem a d m)⟩) (fun x cc e => ?_) (fun x r hm => ?_) (fun z hz x r m r' => hoff y hmy z hz x r m r') (hasg2 y hmy) (hapart2 y hmy) ?_ (by simp) ?_ ?_
    · rcases stay a m with q | q
      · obtain ⟨o,e⟩:=hlive a (hTM a t); rw [src.fresh a q] at e; cases e
      · exact Rp.ref_not (q ▸ rx) (hTM a t)
    · rcases hcl x cc e with h | ⟨v,⟨o,q1,q2⟩,t⟩
      · exact .inl h
      · exact .inr ⟨v,⟨o,kT _ _ t q1,q2⟩,t⟩
    · obtain ⟨v,hr,cc,e,⟨o,q1,q2⟩,t,hx⟩:=hcap x r hm
      exact ⟨v,hr.to fun a o m e => ⟨kT a o (fun t => m (hMn a o (hTM a t) e)) e,fun z => m (hMn a o z e)⟩,cc,e,⟨o,kT _ _ t q1,q2⟩,t,hx⟩
    · intro j z u outs s₅ E₅ hz hP₅ k₅ hE₅ F₅ hacc₅
      have hmz : z ∈ zs y:=mem_of_getElem? hz
      subst hP₅
      refine wpAny_mono (XS (W:=[]) (μ:=fun _ : Unit => μ c) (Z:=fun _ => True) (ρx:=bs y) (d:=f y z) F₅ hacc₅ hT (fun a t => .inr (.inl t)) hDF hDW hWF (fun _ a d m => (hpl c a d m).1) ?_ (fun x r m => hE₅.vars x r (mem_append_right _ (mem_append_left _ m))) (fun x cc e => ?_) fun Q' hq => ?_) (fun _ s' q => ?_) fun _ _ x => x
      · refine le_trans ?_ (le_trans (hlen (i + 1)) hsz)
        rw [hnext,length_append,length_append,length_map,length_map,length_take]; omega
      · rcases hcl x cc e with h | ⟨v,_,t⟩
        · exact .inl (.inr ⟨x,h,e⟩)
        · exact .inr t
      · refine turn y hmy z hmz c env' _ _ hE₅ s₅ E₅ Q' (zS.refl _) fun v s' ks r => ?_
        obtain ⟨h',tk,rfl,kk⟩:=ks
        exact hq v _ () trivial ⟨h',tk,rfl,fun a o _ e => kk a o e⟩ (fun a d m => (hE₅.mem a d m).ext kk) r
      · obtain ⟨_,_,q⟩:=q
        refine ⟨(),_,rfl, ?_⟩
        rw [take_add_one,hz]
        simpa using q
    · have lift : ∀ a o,¬ M' a → s₂.heap.get? a = some o → s₄.heap.get? a = some o ∧ ¬ (M' a ∨ T a ∨ a ∈ wr):=fun a o m e => ⟨ke k23 a o e,fun z => by
        rcases z with z | z | z
        · exact m z
        · exact m (hTM a z)
        · have:=ke k₃ a o e; rw [src.fresh a z] at this; cases this⟩
      refine ⟨fun a o _ e => ke k₄ a o e,src.st,F.to fun a o _ e => ke k23 a o e,⟨vs,hl.at fun o e => ke k23 _ o e,hr.to lift⟩,fun a d m => (hE.mem a d m).to (fun o e => ke k23 a o e) lift,fun x r m => ?_⟩
      obtain ⟨u,hu,hr⟩:=hE.vars x r (mem_append_left _ m)
      exact ⟨u,hu.ext (ke k23),hr.to lift⟩
    · rintro u outs s' hP' ⟨⟨h',tk',e'⟩,g1,g2,⟨vs',hl',hr'⟩,g4,g5⟩
      rw [take_length] at hP'
      subst hP'
      dsimp only at g1
      obtain ⟨h₄,tk₄,rfl,_⟩:=k23
      subst e'
      refine wpAny_pure ⟨c,_,rfl,⟨h',tk',rfl⟩,fun a o t e => g1 a o t (ke k₃ a o e),g2,⟨vs',hl', ?_⟩,fun a d m => (g4 a d m).to (fun _ e => e) fun b o m e => ⟨e,fun z => m (.inl z)⟩,fun _ _ m => by cases m⟩
      rw [hnext]
      exact hr'.less fun a m => .inl m
   exact ZO loop (src.W.self 0 _ _ _ src.st loop)
 · intro s₁ c₀ hz c outs acc C s' hP ef hC hns r hmem
   rw [take_length] at hP
   subst hP
   exact hQ s₁ c₀ acc C s' hz (J4 ef) hC hns r
theorem Ev.ofCompTo {elt : Expr} {gens : List Comprehension} {scope : Scope} {iter : Expr} {pos : Pos} {d : D} (hg : ∃ t gs,gens = ⟨t,iter,[],0⟩ :: gs) (old : ∀ a,M a → ∃ o,h.get? a = some o)
  (H : ∀ s,zS h s.heap → Q6 prog w A (.ListComp elt gens scope pos) scope iter env M (fun s₁ (_ : Unit) => Keeps s s₁) d s) : Ev prog w A h (.ListComp elt gens scope pos) env (PS prog w M d):=by
 intro s E Q k hQ
 obtain ⟨t,gs,rfl⟩:=hg
 rw [eval_ListComp]
 refine H s k none E _ _ ?_
 rintro s₁ _ acc C s' hz ks hC ⟨m,n⟩ r
 have k2:=zA hz ks
 obtain ⟨h',tk,rfl,kk⟩:=k2
 have hC0 : s.heap.get? C = none:=z9 hz hC
 refine ⟨m,n,fun h'' sb => hQ acc _ ⟨h'',tk,rfl,fun a o e => sb.extBut a o (fun q => by rw [q,hC0] at e; cases e) (kk a o e)⟩ (r.to fun a o m' e => ⟨sb.extBut a o (fun q => m' (.inr q)) e,fun x => m' (.inl x)⟩)⟩
noncomputable def xj {α : Type} (n : Nat) (cmp : Nat → Nat → Bool) : KasT α → Option α
 | .ret a => some a
 | .ask i j k => if i < n ∧ j < n then xj n cmp (k (cmp i j)) else none
theorem kh {α : Type} (n : Nat) (cmp : Nat → Nat → Bool) (i j : Nat) (k : Bool → KasT α) : xj n cmp (.ask i j k) = if i < n ∧ j < n then xj n cmp (k (cmp i j)) else none:=rfl
theorem WF (X : ClsAt B C N mN) {M' : Model} (h : Heap) (XB : zS B h) : ∃ k,(k = Keeper.frame ∨ k = Keeper.machine ∨ k = Keeper.boundFrame) ∧ Looks M' h (keeperOf (.ref C)) k:=by
 obtain ⟨nm,q,bs,sn,sub,col,dd,k0,k1,k2,k3,k5,hC⟩:=X.obj
 refine ⟨.machine,.inr (.inl rfl),fun A Q E s kk q => ?_⟩
 obtain ⟨hp,g,d,t,os⟩:=s
 exact wpAny_keeperOf_exc (kk _ _ (XB _ _ hC)) q
theorem Q8 {fx : Str} {fp pos : Pos} {es : List Expr} {rs : List RV} (S : En prog w B names env s.heap M ρ μ) (X : ClsAt B C N mN) (hf : Ev prog w A s.heap (.Name fx fp) env (fun _ u => u = .ref C)) (hx : qy prog w A s.heap env M es rs) {Q : Value → Shared → Prop}
  (hQ : ∀ vs s',Keeps s s' → zP prog w s'.heap M vs rs → wpAny (model prog w) A (PySem.call (.ref C) vs) Q E s') :
  wpAny (model prog w) A (eval (.Call (.Name fx fp) es [] pos) env) Q E s:=by
 refine wpAny_Call_Name_kw (hf s E _ (zS.refl _) fun u s₁ k₁ e => ?_)
 subst e
 refine callWith_of (P:=zS B) (by rw [hx.noStar]; rfl) (fun h' X' => WF X h' X') ?_
 refine vm hx (ke k₁) fun vs s₂ k₂ rs => ?_
 exact ⟨S.base.trans ((ke k₁).trans (ke k₂)),hQ vs s₂ (zA k₁ k₂) rs⟩
theorem jE {h : Heap} {M : Addr → Prop} : ∀ {vs : List Value} {ns : List Int},zH prog w h M vs (ns.map .int) → IntsAre vs ns
 | [],[],_ => .nil
 | [],n :: ns,r => by cases r
 | v :: vs,[],r => by cases r
 | v :: vs,n :: ns,.cons r rs => by
  obtain ⟨t,rfl⟩:=Rp.int_inv r
  exact .cons n t (jE rs)
theorem zG.bytes (ns : List Int) (hr : ∀ n ∈ ns,0 ≤ n ∧ n < 256) (hz : ns.length ≤ sizeLine) : zG prog w k B (.type "bytes") [.list (ns.map .int)] (.bytes (byteArr ns)):=by
 intro A M s E Q vs R X old rs hQ
 obtain ⟨v,rfl,r1⟩:=rs.one_inv
 obtain ⟨a,us,rfl,p,q⟩:=r1.list_inv
 refine call_bytes_ints p.isList (jE q) hr (by rw [q.length,length_map]; exact hz) R.hh fun h' t tk kk => hQ _ _ ⟨h',tk,rfl,kk⟩ (.bytes _ _)
theorem Ev.sliceB (S : En prog w B names env h M ρ μ) {value : Expr} {lower upper : Option Expr} {p pos : Pos} {b : Array UInt8} {lo hi : Option Int}
  (hv : Ev prog w A h value env (PR prog w M (.bytes b))) (hl : zY prog w A h M lower env lo) (hu : zY prog w A h M upper env hi) (hsz : b.size ≤ sizeLine) :
  Ev prog w A h (.Subscript value (.Slice lower upper none p) pos) env (PS prog w M (.bytes (KBy.picked b lo hi))):=by
 intro s E Q k hQ
 refine Subscript_ (hv s E _ k fun o s₁ k₁ ro => wpAny_Slice ?_)
 refine hl s₁ E _ (k.trans (ke k₁)) fun vl s₂ k₂ pl => ?_
 refine hu s₂ E _ (k.trans ((ke k₁).trans (ke k₂))) fun vu s₃ k₃ pu => ?_
 refine zY.none (M:=M) s₃ E _ (k.trans ((ke k₁).trans ((ke k₂).trans (ke k₃)))) fun vst s₄ k₄ pst => ?_
 cases pst
 obtain ⟨t,rfl⟩:=ro.bytes_inv
 have kk:=zA k₁ (zA k₂ (zA k₃ k₄))
 obtain ⟨ops,hso⟩:=zx (.Slice lower upper none p) (.bytes b t) (.ref s₄.heap.objs.size)
 refine tail_any (s:={ s₄ with heap:=s₄.heap.push { cls:=.type "slice",data:=.fields #[vl,vu,.none] } }) (typeIs_bytes _ _ _) FB.slot_bytes_getitem.lookup
  (getItem_meets (typeIs_bytes _ _ _) (by decide) FB.slot_bytes_getitem FB.entry_bytes_getitem (FB.args_bytes_getitem_2 _ _) (KBc.meets_slice2 b t _ pl pu)
  ⟨Heap.IsSliceOf.new _ _ _ _,le_trans (KBc.size_picked_le b lo hi) hsz,fun t' tk => hQ _ _ (zA kk (zM s₄ { cls:=.type "slice",data:=.fields #[vl,vu,.none] } tk)) (.bytes _ _)⟩) hso
noncomputable def vd (h₁ : Heap) (l₁ l : List Env) (e : Addr) (cls : String) (t0 : Addr) (args : List Value) (h : Heap) : Prop:=Heap.FlyingW (hideAll h₁ (xA l₁)) l e (.type cls) (.ref t0) h ∧ h₁.UpToSlots h ∧ h.TupAt t0 args
theorem WN {M' : Model} {l : List Env} {L e : Addr} {cls : String} {args : List Value} {h₁ : Heap} {E : Value → Shared → Prop} {Q : Unit → Shared → Prop} (hfr : A.frames = some (env :: l)) (hf : env.frame = some L) (ok : yN h₁ (env :: l)) (hx : Heap.MadeExc h₁ s.heap e cls args)
  (hQ : ∀ h' t0,vd h₁ (env :: l) l e cls t0 args h' → Q () { s with heap:=h' }) : wpAny M' A (leaving env (.ref e)) Q E s:=by
 obtain ⟨t,he,_,ht⟩:=hx.there
 have ok' : yN s.heap (env :: l):=ok.to fun a o e _ => ⟨o,hx.keeps a o e,rfl⟩
 have hen : (hideAll h₁ (xA (env :: l))).get? e = none:=by
  cases q : (hideAll h₁ (xA (env :: l))).get? e with
  | none => rfl
  | some o => have z:=hx.new; rw [of_hideAll _ q] at z; cases z
 refine wpAny_leaving_firstW (base:=hideAll h₁ (xA (env :: l))) hfr (ok'.ff fun a ha => hideAll_none _ ha) hf he (fun a o q => hx.keeps a o (of_hideAll _ q)) hen rfl rfl rfl fun h' hL => ?_
 obtain ⟨k1,⟨_,_,k2⟩,k3,k4⟩:=hL
 exact hQ h' t ⟨⟨k1,hen,k2,k3⟩,(Heap.UpToSlots.of_keeps hx.keeps).trans k4,Heap.TupAt.of_slots ⟨_,_,ht,rfl,rfl⟩ k4⟩
theorem JF {l l₁ : List Env} {L e t0 : Addr} {cls : String} {args : List Value} {h₁ : Heap} {t : Expr} {n : Str} {b₀ : Stmt} {suite : List Stmt} {pos : Pos} {hs : List ExceptHandler} {Q : Flow → Shared → Prop} {E : Value → Shared → Prop} (hfr : A.frames = some (env :: l)) (hf : env.frame = some L) (F : vd h₁ l₁ (env :: l) e cls t0 args s.heap)
   (hexc : isSubtype (.type cls) (.type "BaseException") = pure true) (hnt : isSubtype (.type ((Manifest.find? cls).elim "type" fun x => x.metatype)) (.type "tuple") = pure false) (hsub : isSubtype (.type cls) (.type cls) = pure true)
   (ht : ∀ (s' : Shared) (E' : Value → Shared → Prop) (Q' : Value → Shared → Prop),zS (hideAll h₁ (xA l₁)) s'.heap → Q' (.type cls) s' → wpAny (model prog w) (A.mark (some (.ref e))) (eval t env) Q' E' s')
   (hQ : ∀ h',YD l₁ h₁ h' → h'.ExcAt e cls (.ref t0) → h'.TupAt t0 args → ∀ E',wpAny (model prog w) (A.mark (some (.ref e))) (storeName env n (.ref e)) (fun _ s₃ => wpAny (model prog w) (A.mark (some (.ref e))) (execs (b₀ :: suite) env) (fun f s₄ => wpAny (model prog w) A (do bindName env n .none; unbindBehindTheSuite env n pos) (fun _ s₅ => Q f s₅) E s₄) (fun _ _ => False) s₃) E' { s with heap:=h' }) :
   wpAny (model prog w) A (noteFrame (.ref e) env) (fun _ s₂ => wpAny (model prog w) A (setFlight (.ref e) none) (fun _ s₃ => wpAny (model prog w) A (handleBy (.ref e) env (.ExceptHandler (some t) (some n) (b₀ :: suite) pos :: hs)) Q E s₃) E s₂) E s:=by
 obtain ⟨hfl,u0,tp⟩:=F
 refine wpAny_looks_onW hfr hf hfl fun h2 hh u1 => wpAny_landsW hh fun h3 hfl3 u2 => ?_
 have tp3:=(tp.of_slots u1).of_slots u2
 refine wpAny_handleBy_builtin_as (X:=cls) (T:=cls) (b:=true) hexc hnt hsub (ht _ _ _ hfl3.1 ⟨rfl, ?_, ?_⟩)
 · obtain ⟨ob,h4,h5⟩:=hfl3.there
   exact ⟨ob,h4,h5⟩
 · rw [if_pos rfl]
   obtain ⟨f1,f2,f3,f4⟩:=hfl3
   refine wpAny_setFlight_noneW f1 f3 f4.at fun h4 k1 k2 k3 k4 => ?_
   have u34 : h3.UpToSlots h4:=fun b o e n => ⟨o.slots,k4 b o e n⟩
   refine wpAny_mono (hQ h4 (YD.of k1 (((u0.trans u1).trans u2).trans u34)) ?_ (tp3.of_slots u34) _) (fun _ s₃ q => wpAny_mono q (fun f s₄ q => q) fun _ _ x => x.elim) fun _ _ x => x
   obtain ⟨oe,vs,T,oT,ts,he,hcls,hd,_⟩:=k3
   exact ⟨oe,vs,he,hcls.1,hd,hcls.2⟩
theorem xI (a b : Nat) : Builtin.bitAnd (a : Int) (b : Int) = ((a &&& b : Nat) : Int):=by
 rw [bitAnd_pp (natCast_nonneg a) (natCast_nonneg b),toNat_natCast,toNat_natCast]
theorem Kj (ws : List Int) : QK (.list (ws.map .int)) (.list []) = ws.isEmpty:=by
 cases ws with
 | nil => rfl
 | cons x xs => simp [QK,xR,wT,PyData.eqv,PyData.eqvAll]
theorem xi (ws : List Int) : xz 8 (.list (ws.map .int)) = true:=by
 rw [xq,all_eq_true]
 intro d hd
 obtain ⟨i,_,rfl⟩:=mem_map.mp hd
 rfl
noncomputable abbrev zC (n : Nat) : D:=.int n
theorem qY (l : List Nat) : l.map zC = (l.map fun n : Nat => (n : Int)).map .int:=by rw [map_map]; rfl
theorem Q3 (b : Bool) : isD (.bool b) (.bool b) = some true:=by cases b <;> rfl
noncomputable def yJ (l : List Nat) : List Nat:=l.mergeSort (fun a b => decide (a ≤ b))
theorem wQ (l : List Nat) : (yJ l).Perm l:=List.mergeSort_perm l _
theorem qI (l : List Nat) : (yJ l).Pairwise (· ≤ ·):=by
 have:=List.pairwise_mergeSort (le:=fun a b : Nat => decide (a ≤ b)) (fun a b c h1 h2 => by simp only [decide_eq_true_eq] at *; omega) (fun a b => by simp only [Bool.or_eq_true,decide_eq_true_eq]; omega) l
 exact this.imp fun h => by simpa using h
theorem kI {l m : List Nat} (hp : l.Perm m) (h1 : l.Pairwise (· ≤ ·)) (h2 : m.Pairwise (· ≤ ·)) : l = m :=
 List.Perm.eq_of_pairwise (fun a b _ _ h k => le_antisymm h k) h1 h2 hp
theorem yC.andN (a b : Nat) : yC prog w .BitAnd (.int a) (.int b) (.int ((a &&& b : Nat) : Int)):=by rw [← xI]; exact .and _ _
theorem zN.eqN (a b : Nat) : zN prog w .Eq (.int a) (.int b) (a == b):=by
 have e : (a == b) = ((a : Int) == (b : Int)):=by rw [Bool.eq_iff_iff]; simp only [beq_iff_eq]; omega
 rw [e]; exact .eqI _ _
theorem zN.neN (a b : Nat) : zN prog w .NotEq (.int a) (.int b) (a != b):=by
 have e : (a != b) = ((a : Int) != (b : Int)):=by rw [Bool.eq_iff_iff]; simp only [bne_iff_ne,ne_eq]; omega
 rw [e]; exact .neI _ _
theorem Wj {h : Heap} {M : Addr → Prop} : ∀ {vs : List Value} {ns : List Int},IntsAre vs ns → zH prog w h M vs (ns.map .int)
 | _,_,.nil => .nil
 | _,_,.cons _ _ r => .cons (.int _ _) (Wj r)
theorem zG.sorted (xs : List Nat) (hx : xs.length < 64) : zG prog w k B (.builtin "sorted") [.list (xs.map zC)] (.list ((yJ xs).map zC)):=by
 intro A M s E Q vs R X old rs hQ
 obtain ⟨v,rfl,r⟩:=rs.one_inv
 obtain ⟨a,us,rfl,p,q⟩:=r.list_inv
 rw [qY] at q
 have hl:=q.length
 simp only [length_map] at hl
 refine sorted_ints p.isList (jE q) (by omega) fun out ns' h1 h2 h3 => ?_
 obtain ⟨e,he⟩:=sortedAll_at s.heap us out
 have hn : ∃ l : List Nat,ns' = l.map fun n : Nat => (n : Int):=by
   refine ⟨ns'.map toNat, ?_⟩
   rw [map_map]
   refine (List.map_id ns').symm.trans (map_congr_left fun x hx => ?_)
   obtain ⟨n,_,e⟩:=mem_map.mp (h2.mem_iff.mp hx)
   rw [← e]; simp
 obtain ⟨l,rfl⟩:=hn
 have hls : l = yJ xs:=by
   refine kI ?_ ?_ (qI xs)
   · have:=h2.map toNat
     simp only [map_map,Function.comp_def,toNat_natCast,List.map_id'] at this
     exact this.trans (wQ xs).symm
   · rw [pairwise_map] at h3
     exact h3.imp fun h => by omega
 subst hls
 refine hQ _ _ ⟨_,_,rfl,fun b o e => sortedAll_old e⟩ ?_
 refine .list (vs:=out.toList) ⟨e, ?_⟩ (fun m => ?_) (by rw [qY]; exact Wj h1)
 · rw [Array.toArray_toList]; exact he
 · obtain ⟨o,q⟩:=old _ m
   exact absurd (Nat.lt_of_succ_lt (lt_size q)) (lt_irrefl _)
theorem zG.listL (xs : List D) (hx : xs.length ≤ sizeLine) : zG prog w k B (.type "list") [.list xs] (.list xs):=by
 intro A M s E Q vs R X old rs hQ
 obtain ⟨v,rfl,r⟩:=rs.one_inv
 obtain ⟨a,us,rfl,⟨n,p⟩,q⟩:=r.list_inv
 refine call_list_seq (hsz:=by rw [size_toArray,q.length]; exact hx) a (.inl rfl) p rfl rfl fun h' c' kk hD => ?_
 exact hQ _ _ ⟨h',s.toks,rfl,kk⟩ (.list (vs:=us) ⟨c',hD⟩ (xY old) (q.ext kk))
theorem zG.chr (i : Nat) (hi : i ≤ 1114111) : zG prog w k B (.builtin "chr") [.int i] (.str ⟨#[i]⟩):=by
 intro A M s E Q vs R X old rs hQ
 obtain ⟨v,rfl,r⟩:=rs.one_inv
 obtain ⟨t,rfl⟩:=r.int_inv
 refine chr_of_range (by omega) (by omega) (hQ _ _ (zL s _) ?_)
 rw [toNat_natCast]; exact .str _ _
noncomputable def xN (xs : List Nat) : List Int:=firstMet (fun i => (xs.map fun n : Nat => (n : Int)).getD i 0) xs.length
theorem VU {f : Value} {h : Heap} {e : Expr} {pos : Pos} {R : Heap → Value → Prop} (he : Ev prog w A h e env R) (hst : ∀ rest,starEach (e :: rest) env = (false,eval e env) :: starEach rest env) {s : Shared} {Q : Args → Shared → Prop} (kx : zS h s.heap)
  (hQ : ∀ v s',Keeps s s' → R s'.heap v → Q ⟨[v],[]⟩ s') : wpAny (model prog w) A (evalArgs f true (backTo pos (starEach [e] env)) []) Q E s:=by
 have key : wpAny (model prog w) A (spliced (backTo pos (starEach [e] env))) (fun vs s' => Q ⟨vs,[]⟩ s') E s:=by
  rw [hst]
  show wpAny _ _ (spliced ((false,eval e env) :: backTo pos (starEach [] env))) _ E s
  exact spliced_cons (he s E _ kx fun v s₁ k₁ r => spliced_nil (hQ v s₁ k₁ r))
 rw [hst] at key ⊢
 exact evalArgs_plain key
theorem Ev.call1 {fx : Str} {fp pos : Pos} {f : Value} {e : Expr} {R R' : Heap → Value → Prop} (S : En prog w B names env h M ρ μ) (hf : Ev prog w A h (.Name fx fp) env (fun _ u => u = f)) (K : ji B f)
  (he : Ev prog w A h e env R) (hst : ∀ rest,starEach (e :: rest) env = (false,eval e env) :: starEach rest env)
  (hcall : ∀ v s E Q,zS h s.heap → R s.heap v → (∀ u s',Keeps s s' → R' s'.heap u → Q u s') → wpAny (model prog w) A (PySem.call f [v]) Q E s) : Ev prog w A h (.Call (.Name fx fp) [e] [] pos) env R':=by
 intro s E Q kx hQ
 refine wpAny_Call_Name_kw (hf s E _ kx fun u s₁ k₁ e => ?_)
 subst e
 refine callWith_of (P:=zS B) (by rw [hst]; rfl) (fun h' X => ya K h' X) (VU he hst (kx.trans (ke k₁)) fun v s₂ k₂ r => ?_)
 have X:=kx.trans ((ke k₁).trans (ke k₂))
 exact ⟨S.base.trans X,hcall v s₂ E Q X r fun u s' k₃ r => hQ u s' (zA k₁ (zA k₂ k₃)) r⟩
theorem Ev.lenSet {mg mb : Str → Option Value} (G : Gl B mg mb) (hl : mg "len" = none ∧ mb "len" = some (.builtin "len")) (hs : mg "set" = none ∧ mb "set" = some (.type "set")) (S : En prog w B names env h M ρ μ) (R : Rm A 0)
   {fp gp p q : Pos} {e : Expr} {xs : List Nat} (hx : xs.length ≤ 100) (nl : names.lookup (ofString "len") = some .globalImplicit) (ns : names.lookup (ofString "set") = some .globalImplicit)
   (he : Ev prog w A h e env (PR prog w M (.list (xs.map zC)))) (hst : ∀ rest,starEach (e :: rest) env = (false,eval e env) :: starEach rest env)
   (hst2 : ∀ rest,starEach (.Call (.Name (ofString "set") gp) [e] [] q :: rest) env = (false,eval (.Call (.Name (ofString "set") gp) [e] [] q) env) :: starEach rest env) :
   Ev prog w A h (.Call (.Name (ofString "len") fp) [.Call (.Name (ofString "set") gp) [e] [] q] [] p) env (PS prog w M (.int (xN xs).length)):=by
 have hsl : 101 < scanBound:=by unfold scanBound; decide
 refine Ev.call1 S (Ev.glob G S nl (.inr hl) (by decide)) (.inl fun _ e => by cases e) (R:=fun h v => ∃ a S',v = .ref a ∧ h.SetOf (intKind prog w) a S' (xN xs).length) (Ev.call1 S (Ev.glob G S ns (.inr hs) (by decide)) (.inl fun _ e => by cases e) he hst ?_) hst2 ?_
 · intro v s E Q X r hQ
   obtain ⟨a,us,rfl,p,q⟩:=r.list_inv
   rw [qY] at q
   have hlen:=q.length
   simp only [length_map] at hlen
   refine call_set_list (items:=us.toArray) (ns:=xs.map fun n : Nat => (n : Int)) R.hh p.isList (by simpa using jE q) (by rw [size_toArray]; omega) fun h' tk hS kk => ?_
   have e1 : us.toArray.size = xs.length:=by rw [size_toArray]; exact hlen
   rw [e1] at hS
   exact hQ _ _ ⟨h',tk,rfl,fun b o e => kk b o (lt_size e) e⟩ ⟨_,_,rfl,hS⟩
 · rintro v s E Q X ⟨a,S',rfl,o,es,ep,t,ho,hex,hd,_,_,_,hf,hn⟩ hQ
   have hle : (xN xs).length ≤ xs.length:=firstMet_length_le _ _
   rw [← hn] at hle hQ
   refine call_len_set ho hex hd hf (by omega) (hQ _ _ ⟨s.heap,_,rfl,fun _ _ e => e⟩ (.int _ _))
section
variable {M' : Model} {name qual : Str} {params : Arguments} {body : List Stmt} {scope : Scope} {c P : Addr} {ps : Array Value} {pos : Pos} {firstLine : Nat} {clos : List (Str × Addr)} {Q : Value → Shared → Prop}
theorem kX (hcl : closureFor scope env = pure clos) (hne : clos.isEmpty = false) (hge0 : env.globals = mainGlobals) (hg : s.heap.Ns mainGlobals mg) (hcode : env.code = .ref c) (C : CodeHd s.heap c P) (hP : s.heap.get? P = some (tabObj ps)) (ht : TriplesOk ps.toList)
  (hnf : codeAmong pos ps.toList = none) (hgP : mainGlobals ≠ P) (hb : s.heap.BuiltinsAt mg P)
  (h : ∀ c' P' ctv doc h' tk,Heap.ExtBut P s.heap h' → s.heap.objs.size ≤ c' → c' < h'.objs.size → h'.CodeRec (.ref c') qual → h'.get? P = some (tabObj (ps ++ #[rawInt pos.line,rawInt pos.col,.ref c'])) →
   s.heap.objs.size ≤ P' → CodeHd h' c' P' → h'.get? P' = some (tabObj #[]) →
   Q (.ref h'.objs.size) { s with heap:=h'.push (fnMade name qual params body scope clos doc ((mg "__name__").getD .none) c' ctv),toks:=tk }) :
  wpAny M' A (makeFunction name qual params (.stmts body) scope env [] [] [] pos firstLine) Q E s:=by
 rw [makeFunction_eq]
 simp only [zip_nil_right,List.filterMap_nil,List.isEmpty_nil,if_true,pure_bind]
 obtain ⟨bm,ob,hbm,hne0,_,hneP,hbo,hcls,hdict,hdata⟩:=hb
 unfold makeTail
 rw [hcl,hge0]
 refine wpAny_bind (wpAny_pure ?_)
 rw [hne]
 simp only [false_eq_true,if_false]
 refine wpAny_bind (wpAny_newTextTuple ?_)
 refine wpAny_bind (wpAny_functionCodeX hcode ((C.keeps fun b o e => get?_push_of_some _ e).code (get?_push_of_some _ hP) ht) ((C.keeps fun b o e => get?_push_of_some _ e).tab (get?_push_of_some _ hP)) hnf fun c' h' tk hx hge hlt _ hrec htb hT => ?_)
 obtain ⟨P',hP',hT1,hT2⟩:=hT
 have hg':=(hg.push _).extBut hx hgP
 have hx' : Heap.ExtBut P s.heap h':=fun b o hb' e => hx b o hb' (get?_push_of_some _ e)
 have hge' : s.heap.objs.size ≤ c':=le_trans (by rw [Heap.size_push]; omega) hge
 have hgeP : s.heap.objs.size ≤ P':=le_trans (by rw [Heap.size_push]; omega) hP'
 refine wpAny_bind (wpAny_builtinsFor hg' hbm hne0 (hx' _ _ hneP hbo) hcls hdict hdata ?_)
 refine wpAny_bind (wpAny_nsGet hg' ?_)
 cases hdoc : docOf body with
 | none => exact wpAny_bind (wpAny_pure (wpAny_newObj_type (h c' P' _ .none h' tk hx' hge' hlt hrec htb.2 hgeP (CodeHd.of hT1 hT2) hT2.2) (by size_fits)))
 | some t => exact wpAny_bind (wpAny_mkText (wpAny_newObj_type (h c' P' _ _ h' _ hx' hge' hlt hrec htb.2 hgeP (CodeHd.of hT1 hT2) hT2.2) (by size_fits)))
end
theorem QF {h : Heap} {c P : Addr} {oc : Obj} (C : CodeHd h c P) (hoc : h.get? c = some oc) : ∀ h2 : Heap,h2.get? c = some oc → CodeHd h2 c P:=by
 obtain ⟨o,vs,f,tf,fl,tg,i,tx,tt,e,r⟩:=C
 rw [e] at hoc; cases hoc
 exact fun h2 e2 => ⟨oc,vs,f,tf,fl,tg,i,tx,tt,e2,r⟩
theorem Ka {mg : Str → Option Value} {P : Addr} {qs : List (Pos × Str)} {pre post : List (Addr × D)} {ps : Array Value} {os : List (Addr × Obj)} (T : Tb B mg env P qs) (S : St prog w B s₀ Own₀ M₀ names env Own M ρ (pre ++ (P,.obs P (tabObj ps) os) :: post) s) (ho : Own P)
  {name : Str} {params : Arguments} {body : List Stmt} {scope : Scope} {pos : Pos} {rest : List Stmt} (hT : z6 qs ps os) (hq : (pos,qualnameIn env name name) ∈ qs) (hn1 : codeAmong pos ps.toList = none) (hd0 : params.defaults = []) (hk0 : params.kw_defaults = []) (ha : annTrees params none env = []) (hc : yQ names scope = true)
  (hfr : ∃ x,(x,NameKind.free) ∈ scope.names) (hx : zT names name = true) {Q : Flow → Shared → Prop}
  (hQ : ∀ f fo fd c' P' oc cl ps' os' s',fo.data = .func fd → ZN fd params (.stmts body) scope (qualnameIn env name name) c' cl → jW oc (qualnameIn env name name) → z6 qs ps' os' → (∀ x c,cl.lookup x = some c → env.cells.lookup x = some c) → (∀ x,(x,NameKind.free) ∈ scope.names → (cl.lookup x).isSome = true) →
    ¬ M P' → (∀ h2 : Heap,h2.get? c' = some oc → CodeHd h2 c' P') →
    St prog w B s₀ Own₀ M₀ names env (fun b => Own b ∨ b = P') (fun b => M b ∨ b = P') ((name,.dat (.obs f fo [(c',oc)])) :: YX name ρ) ((P',.obs P' (tabObj #[]) []) :: (pre ++ (P,.obs P (tabObj ps') os') :: post)) s' → wpAny (model prog w) A (execs rest env) Q E s') (hcn : names.lookup name = some .local) :
  wpAny (model prog w) A (execs (.FunctionDef name params body [] none [] scope none name pos :: rest) env) Q E s:=by
 obtain ⟨cl,hcl,h1,h2⟩:=wN S.e.n hc
 obtain ⟨hgP,hb⟩:=T.ne S ho
 obtain ⟨mb,G⟩:=T.gl
 obtain ⟨c,hcode,C⟩:=T.code
 have hc0:=S.e.mem P _ (mem_append_right _ (.head _))
 have hPt : s.heap.get? P = some (tabObj ps):=by
  cases hc0 with | tab p _ => exact p
 have hg:=G.g.keeps S.e.base
 have hne : cl.isEmpty = false:=by
  obtain ⟨x,hx⟩:=hfr
  have:=h2 x hx
  cases cl with
  | nil => cases this
  | cons _ _ => rfl
 refine wpAny_execs_cons (nestDef_K hd0 hk0 ha ?_)
 refine kX (mg:=mg) hcl hne S.e.n.glob hg hcode (C.keeps S.e.base) hPt hT.1 hn1 hgP hb fun c' P' ctv doc h' tk hx' hge hlt hrec htb hgeP hcd htP => ?_
 have hnM : ∀ b,s.heap.objs.size ≤ b → ¬ M b:=fun b hb m => by obtain ⟨o,e⟩:=S.e.old b m; exact absurd (lt_size e) (Nat.not_lt.mpr hb)
 have hP'n : s.heap.get? P' = none:=get?_none_of_le hgeP
 have hPP : P' ≠ P:=fun z => by rw [z,hPt] at hP'n; cases hP'n
 have hvP : (h'.update P fun _ => tabObj ps).get? P = some (tabObj ps):=get?_update_self _ htb rfl
 have hvO : ∀ b,b ≠ P → (h'.update P fun _ => tabObj ps).get? b = h'.get? b:=fun b n => Heap.get?_update_other _ _ (Ne.symm n)
 have S₁:=S.mut (s':={ s with heap:=h'.update P fun _ => tabObj ps }) (a:=P') (d:=.obs P' (tabObj #[]) []) ⟨_,s.toks,rfl,fun b o e => by
  by_cases z : b = P
  · rw [z,hPt] at e; cases e; rw [z]; exact hvP
  · rw [hvO b z]; exact hx' b o z e⟩ hP'n (.tab ((hvO _ hPP).trans htP) fun p hp => by cases hp)
 obtain ⟨c₂,oc,vs,t,e2,hoc,hd,hvs⟩:=hrec
 cases e2
 have hcP : c' ≠ P':=by obtain ⟨_,_,_,_,_,_,_,_,_,_,_,_,_,_,_,_,_,_,n⟩:=hcd; exact n
 have hcM : ¬ (M c' ∨ c' = P'):=fun z => z.elim (hnM c' hge) hcP
 have hcP2 : c' ≠ P:=fun z => by rw [z] at hge; exact absurd (lt_size hPt) (Nat.not_lt.mpr hge)
 have S₂:=S₁.effect1 (pre:=(P',.obs P' (tabObj #[]) []) :: pre) (d':=.obs P (tabObj (ps ++ #[rawInt pos.line,rawInt pos.col,.ref c'])) ((c',oc) :: os)) (h':=h'.push (fnMade name (qualnameIn env name name) params body scope cl doc ((mg "__name__").getD .none) c' ctv)) (tk:=tk) rfl (.inl ho) (fun b o n e => get?_push_of_some _ (by rw [← hvO b n]; exact e)) (.tab (get?_push_of_some _ htb) fun p hp => by
  rcases mem_cons.mp hp with rfl | hp
  · exact ⟨get?_push_of_some _ hoc,hcM⟩
  · cases hc0 with
    | tab _ r =>
     refine ⟨get?_push_of_some _ (hx' _ _ (fun q => (r p hp).2 (q ▸ S.own P ho)) (r p hp).1),fun z => z.elim (r p hp).2 fun q => ?_⟩
     have:=(r p hp).1
     rw [q,hP'n] at this; cases this)
 have hfsz : s.heap.objs.size ≤ h'.objs.size:=le_of_lt (lt_of_le_of_lt hge hlt)
 have rf : Rp prog w (h'.push (fnMade name (qualnameIn env name name) params body scope cl doc ((mg "__name__").getD .none) c' ctv)) (fun b => M b ∨ b = P') (.ref h'.objs.size) (.obs h'.objs.size (fnMade name (qualnameIn env name name) params body scope cl doc ((mg "__name__").getD .none) c' ctv) [(c',oc)]):=by
  refine .obs (get?_push_size _ rfl) (fun z => z.elim (hnM _ hfsz) fun q => ?_) fun p hp => ?_
  · rw [← q] at htP; exact absurd (lt_size htP) (lt_irrefl _)
  · cases mem_singleton.mp hp
    exact ⟨get?_push_of_some _ hoc,hcM⟩
 have hlo:=S.e.n.lo name hcn
 refine yO S₂.e.n S₂.f (.inl hcn) fun h₂ tk₂ F₂ hv hy hk => ?_
 have S₃:=S₂.written (h':=h₂) (tk:=tk₂) F₂ (fun a o n e => (hk a n).trans e) (ρ':=(name,.dat (.obs h'.objs.size (fnMade name (qualnameIn env name name) params body scope cl doc ((mg "__name__").getD .none) c' ctv) [(c',oc)])) :: YX name ρ) fun y u hm => by
  rcases mem_cons.mp hm with e2 | hm
  · cases e2; exact ⟨_,hv,rf⟩
  · have hm2:=mem_filter.mp hm
    obtain ⟨u',hu,hr'⟩:=S₂.e.vars y u hm2.1
    exact ⟨u',hy y u' (by simpa using hm2.2) hu,hr'⟩
 exact hQ _ _ _ c' P' oc cl _ _ _ rfl ⟨rfl,rfl,rfl,rfl,rfl,rfl,rfl,rfl,rfl,rfl⟩ ⟨vs,t,hd,hvs⟩ (hT.more T.ap hq hn1 ⟨vs,t,hd,hvs⟩) h1 h2 (hnM _ hgeP) (QF hcd hoc) S₃
theorem ZU {x : Str} {params : Arguments} {fd : FuncData} {body : FuncBody} {scope : Scope} {qual : Str} {c' : Addr} {cl : List (Str × Addr)} (F : ZN fd params body scope qual c' cl)
  (h : ∀ (fd : FuncData) (v : Value),fd.params = params → fd.defaults = .none → fd.kwdefaults = .none → bindArgs fd ⟨[v],[]⟩ = pure [(x,v)]) (v : Value) (s : Shared) : BindsTo s fd ⟨[v],[]⟩ [(x,v)]:=by
 intro M A E Q hQ
 rw [h fd v F.par F.dfl F.kwd]
 exact wpAny_pure hQ
theorem Qp {fd : FuncData} {f : Addr} {fo : Obj} {params : Arguments} {body : List Stmt} {scope : Scope} {qual : Str} {c' : Addr} {cl : List (Str × Addr)} {B₀ : Heap} {xs : List Str} {vs : List Value} {ds : List D} {r : D} {γ : Type} {Z : γ → Prop} {μk : List (Addr × D)} {μk' : γ → List (Addr × D)} {Q E : Value → Shared → Prop}
   (F : ZN fd params (.stmts body) scope qual c' cl) (hf : vg scope = true) (hlim : B₀.NoLimit) (XB : zS B₀ B) (hfo : B.get? f = some fo) (hfd : fo.data = .func fd) (hco : B.CodeRec (.ref c') qual) (K : Clo prog w B M scope ρ cl)
   (hb : BindsTo s fd ⟨vs,[]⟩ (xs.zip vs)) (hn : xs.Nodup) (hl : xs.length = ds.length) (hx : (xs.all fun x => zT scope.names x) = true) (hT : ∀ a y,(a,y) ∈ μk → M a ∧ B.get? a = none) (hnd : (μk.map (·.1)).Nodup)
   (R : Rm A (k + 1)) (X : zS B s.heap) (old : ∀ a,M a → ∃ o,s.heap.get? a = some o) (rs : zH prog w s.heap M vs ds) (hμ : ∀ a y,(a,y) ∈ μk → zd prog w s.heap M a y)
   (run : ∀ A env Own M' s₁,Rm A k → (∃ L,env = zW fd L f) → (∀ a ∈ μk.map (·.1),Own a) → St prog w B s (fun a => a ∈ μk.map (·.1)) M scope.names env Own M' (xs.zip (ds.map .dat) ++ xa scope.names ρ) μk s₁ →
     wpAny (model prog w) A (execs body env) (fun fl s' => ∃ v ρ' Own' M' c,fl = .ret v ∧ St prog w B s (fun a => a ∈ μk.map (·.1)) M scope.names env Own' M' ρ' (μk' c) s' ∧ Rp prog w s'.heap M' v r ∧ Z c) (fun _ _ => False) s₁)
   (hQ : ∀ v s' c,Z c → Xj (μk.map (·.1)) s s' → (∀ a y,(a,y) ∈ μk' c → zd prog w s'.heap M a y) → Rp prog w s'.heap M v r → Q v s') : wpAny (model prog w) A (PySem.call (.ref f) vs) Q E s:=by
 have hvl : vs.length = ds.length:=rs.length
 refine wpAny_call (jV (args:=⟨vs,[]⟩) (M₀:=M) (Own₀:=fun a => a ∈ μk.map (·.1)) (B:=B) (μ₀:=μk) (ρ₀:=xs.zip (ds.map .dat) ++ xa scope.names ρ) (VQ F hf K.free K.apart) R (X f fo hfo) hfd (hlim.keeps XB) X (by rw [F.code,F.qn]; exact zi hco X) F.bod hb ?_ ?_ old (fun a z => ?_) (fun y c e => ?_) ?_ hμ hnd ?_)
 · rw [List.map_fst_zip (by omega)]; exact hn
 · rw [F.sco,all_eq_true]
   intro p hp
   exact all_eq_true.mp hx _ (List.of_mem_zip hp).1
 · obtain ⟨⟨a',y⟩,hm,rfl⟩:=mem_map.mp z
   exact hT a' y hm
 · rw [F.clo] at e; obtain ⟨u,q⟩:=K.has y c e; exact ⟨u,q.keeps X⟩
 · intro y r hm
   rcases mem_append.mp hm with hm | hm
   · obtain ⟨i,hi⟩:=List.getElem?_of_mem hm
     rw [List.getElem?_zip_eq_some] at hi
     obtain ⟨h1,h2⟩:=hi
     rw [getElem?_map] at h2
     cases hd : ds[i]? with
     | none => rw [hd] at h2; cases h2
     | some d =>
      rw [hd] at h2; cases h2
      obtain ⟨v,hv,rv⟩:=rs.get hd
      exact .inl ⟨v,mem_of_getElem? (List.getElem?_zip_eq_some.mpr ⟨h1,hv⟩),rv⟩
   · obtain ⟨c,u,e1,e2,e3,e4⟩:=K.cap y r hm
     refine .inr ⟨?_,e4,c,u,by rw [F.clo]; exact e1,e2.keeps X,e3.ext X⟩
     rw [F.sco]
     simpa using (mem_filter.mp hm).2
 · intro env Own M' s₁ hL R' hO _ S
   rw [F.sco] at S
   refine wpAny_mono (run _ env Own M' s₁ R' hL (fun a z => hO a z) S) (fun fl s' q => ?_) fun _ _ x => x.elim
   obtain ⟨v,ρ',Own',M'',cz,rfl,S',r,hz⟩:=q
   obtain ⟨h',tk,e⟩:=S'.same
   refine hQ v s' cz hz ⟨h',tk,e,fun a o n q => ?_⟩ (fun a y hm => (S'.e.mem a y hm).to (fun _ e => e) fun b o m e => ⟨e,fun z => m (S'.more b z)⟩) (r.less S'.more)
   have:=S'.keep a o n q
   rw [e] at this; exact this
theorem QV {elts : List Expr} {k : Nat} {tpos pos : Pos} {e : Expr} {bs : List (Str × RV)} (hh : A.handled = none) (hs : swapsWithSole [.Tuple elts k tpos] e pos.line env = pure false) (hw : swappedStores [.Tuple elts k tpos] e env = pure none)
  (hv : wpAny (model prog w) A (eval e env) (fun v s₁ => ∃ Own M ρ μ d,St prog w B s₀ Own₀ M₀ names env Own M ρ μ s₁ ∧ Rp prog w s₁.heap M v d ∧ wu prog w names (.Tuple elts k tpos) d bs ∧ ∀ s',St prog w B s₀ Own₀ M₀ names env Own M (bs ++ ρ.filter fun p => !(bs.map (·.1)).contains p.1) μ s' → wpAny (model prog w) A (execs rest env) Q E s') E s) :
  wpAny (model prog w) A (execs (.Assign [.Tuple elts k tpos] e pos :: rest) env) Q E s:=by
 refine wpAny_execs_cons (PyProof.Rows.Assign_Tuple (wpAny_mono hv (fun v s₁ hz => ?_) fun _ _ x => x) hs hw)
 obtain ⟨Own,M,ρ,μ,d,S,r,G,hk⟩:=hz
 exact S.assign hh G r hk
theorem JL {elts : List Expr} (ps : List (Str × Pos)) (he : elts = ps.map fun p => Expr.Name p.1 p.2) {k : Nat} {tpos pos : Pos} {e : Expr} (hh : A.handled = none) (hn : (ps.map (·.1)).Nodup) (hk : (ps.all fun p => zT names p.1) = true) (hs : swapsWithSole [.Tuple elts k tpos] e pos.line env = pure false) (hw : swappedStores [.Tuple elts k tpos] e env = pure none)
   (hv : wpAny (model prog w) A (eval e env) (fun v s₁ => ∃ Own M ρ μ t vs rs,v = .ref t ∧ St prog w B s₀ Own₀ M₀ names env Own M ρ μ s₁ ∧ K9 s₁.heap t vs ∧ zP prog w s₁.heap M vs rs ∧ rs.length = ps.length ∧ Qs prog w A B s₀ Own₀ M₀ names env ρ ps rest Q E Own M μ rs) E s) :
   wpAny (model prog w) A (execs (.Assign [.Tuple elts k tpos] e pos :: rest) env) Q E s:=by
 refine wpAny_execs_cons (PyProof.Rows.Assign_Tuple (wpAny_mono hv (fun v s₁ hz => ?_) fun _ _ x => x) hs hw)
 obtain ⟨Own,M,ρ,μ,t,vs,rs,rfl,S,⟨n,ht⟩,r,hl,hk2⟩:=hz
 subst he
 have hvl : vs.length = ps.length:=by rw [r.length]; exact hl
 refine assign_Tuple_tuple hh ⟨_,ht,rfl,n,rfl⟩ (by rw [zh]; simp [hvl]) ?_ fun h₁ x₁ => ?_
 · rw [zh,List.findIdx?_eq_none_iff]
   intro q hq
   obtain ⟨z,_,rfl⟩:=mem_map.mp hq
   rfl
 · rw [vT]
   have kx : Keeps s₁ { s₁ with heap:=h₁ }:=⟨h₁,s₁.toks,rfl,qM x₁ (zc _)⟩
   refine qG (fun p v s Q hs => wpAny_assign_Name hs) ps vs rs _ _ ρ hk (S.step kx) (r.ext (ke kx)) hl.symm (fun s' S' _ => hk2 s' (S'.sub fun x r hm => ?_)) hn
   rcases mem_append.mp hm with hm | hm
   · exact mem_append_left _ (mem_reverse.mpr hm)
   · exact mem_append_right _ hm
theorem JR {x : Str} {xp pos : Pos} {es : List Expr} {ds : List D} {f : Addr} {fo : Obj} {fd : FuncData} {os : List (Addr × Obj)} (S : St prog w B s₀ Own₀ M₀ names env Own M ρ μ s) (hx : (x,RV.dat (.obs f fo os)) ∈ ρ) (hdb : (x == ("__debug__" : Str)) = false) (hfd : fo.data = .func fd)
   (hx1 : Zr prog w A s.heap env M es ds) {Q : Value → Shared → Prop} (hQ : ∀ vs s',Keeps s s' → zH prog w s'.heap M vs ds → wpAny (model prog w) A (PySem.call (.ref f) vs) Q E s') : wpAny (model prog w) A (eval (.Call (.Name x xp) es [] pos) env) Q E s:=by
 refine wpAny_Call_Name_kw (Ev.var S.e hx hdb s E _ (zS.refl _) fun u s₁ k₁ r => ?_)
 obtain ⟨rfl,ef,mf,_⟩:=Rp.obs_inv r
 refine callWith_of (P:=fun h => h.get? f = some fo) (by show ((backTo pos (starEach es env)).any (·.1) || false) = false; rw [hx1.rd.noStar]; rfl) (fun h' X => ⟨.frame,.inl rfl, ?_⟩) (wS hx1 (ke k₁) fun vs s₂ k₂ rs => ?_)
 · refine (Looks.ld (part:=none) X).andThen ?_
   rw [hfd]
   exact Looks.now
 · exact ⟨ke k₂ _ _ ef,hQ vs s₂ (zA k₁ k₂) rs⟩
theorem V9 {x y : Str} {params : Arguments} {fd : FuncData} {body : FuncBody} {scope : Scope} {qual : Str} {c' : Addr} {cl : List (Str × Addr)} (F : ZN fd params body scope qual c' cl)
  (h : ∀ (fd : FuncData) (v u : Value),fd.params = params → fd.defaults = .none → fd.kwdefaults = .none → bindArgs fd ⟨[v,u],[]⟩ = pure [(x,v),(y,u)]) (v u : Value) (s : Shared) : BindsTo s fd ⟨[v,u],[]⟩ [(x,v),(y,u)]:=by
 intro M A E Q hQ
 rw [h fd v u F.par F.dfl F.kwd]
 exact wpAny_pure hQ
theorem St.adopt {P : Addr} {d d' : D} {pre post news : List (Addr × D)} (S : St prog w B s₀ Own₀ M₀ names env Own M ρ (pre ++ (P,d) :: post) s) (hP : Own P) {h' : Heap} {tk : Nat} (hk : ∀ b o,b ≠ P → s.heap.get? b = some o → h'.get? b = some o)
   (hc : zd prog w h' (fun b => M b ∨ b ∈ news.map (·.1)) P d') (hn : ∀ p ∈ news,s.heap.get? p.1 = none) (hnc : ∀ p ∈ news,zd prog w h' (fun b => M b ∨ b ∈ news.map (·.1)) p.1 p.2) (hnd : (news.map (·.1)).Nodup) :
   St prog w B s₀ Own₀ M₀ names env (fun b => Own b ∨ b ∈ news.map (·.1)) (fun b => M b ∨ b ∈ news.map (·.1)) ρ (news ++ (pre ++ (P,d') :: post)) { s with heap:=h',toks:=tk }:=by
 have hPM:=S.own P hP
 have hPc:=S.e.mem P d (mem_append_right _ (.head _))
 have hnew : ∀ b,b ∈ news.map (·.1) → s.heap.get? b = none:=fun b hb => by
   obtain ⟨p,hp,rfl⟩:=mem_map.mp hb; exact hn p hp
 have hPn : P ∉ news.map (·.1):=fun z => by obtain ⟨o,e⟩:=yR hPc; rw [hnew P z] at e; cases e
 have hex : ∀ b,b ∈ news.map (·.1) → ∃ o,h'.get? b = some o:=fun b hb => by
   obtain ⟨p,hp,rfl⟩:=mem_map.mp hb; exact yR (hnc p hp)
 have hmv : ∀ b o,¬ M b → s.heap.get? b = some o → h'.get? b = some o ∧ ¬ (M b ∨ b ∈ news.map (·.1)):=fun b o m e => ⟨hk b o (fun z => m (z ▸ hPM)) e,fun z => z.elim m fun z => by rw [hnew b z] at e; cases e⟩
 have hsep : ∀ b,zO names env b → b ≠ P:=fun b z q => S.sep P d (mem_append_right _ (.head _)) (q ▸ z)
 have hcel : ∀ c v,s.heap.IsCell c v → c ≠ P:=fun c v q z => zr hPc (z ▸ q)
 obtain ⟨hh,t,e⟩:=S.same
 have hnd0:=S.nodup
 have hmem : ∀ b x,(b,x) ∈ pre ++ (P,d') :: post → (b ≠ P ∧ (b,x) ∈ pre ++ (P,d) :: post) ∨ (b = P ∧ x = d'):=fun b x hm => by
   rw [map_append,map_cons,nodup_append,nodup_cons] at hnd0
   rcases mem_append.mp hm with hm | hm
   · exact .inl ⟨fun z => hnd0.2.2 b (mem_map.mpr ⟨_,hm,rfl⟩) b (by rw [z]; exact .head _) rfl,mem_append_left _ hm⟩
   · rcases mem_cons.mp hm with q | hm
     · cases q; exact .inr ⟨rfl,rfl⟩
     · exact .inl ⟨fun z => hnd0.2.1.1 (by rw [← z]; exact mem_map.mpr ⟨_,hm,rfl⟩),mem_append_right _ (.tail _ hm)⟩
 refine ⟨⟨h',tk,by rw [e]⟩,⟨fun b o q => hk b o (fun z => ?_) (S.e.base b o q),S.e.n,fun b m => ?_,fun y c q => ?_,fun y u hm => ?_,fun b x hm => ?_⟩,S.f.to fun b o x q => hk b o (hsep b x) q,fun b o n q => ?_,fun b m => m.imp (S.own b) _root_.id,fun b m => .inl (S.own₀ b m),fun b m => m.elim (S.fresh b) fun m => ?_,fun b m => .inl (S.more b m),fun b z => .inl (S.fr b z),fun b m => m.elim (S.base b) fun m => ?_,fun b x hm => ?_, ?_⟩
 · rw [z,S.base P hP] at q; cases q
 · rcases m with m | m
   · by_cases z : b = P
     · rw [z]; exact yR hc
     · obtain ⟨o,q⟩:=S.e.old b m; exact ⟨o,hk b o z q⟩
   · exact hex b m
 · obtain ⟨u,o,q2,q3⟩:=S.e.celled y c q
   exact ⟨u,o,hk c o (hcel c u ⟨o,q2,q3⟩) q2,q3⟩
 · obtain ⟨v,hv,hr⟩:=S.e.vars y u hm
   refine ⟨v, ?_,hr.to hmv⟩
   rcases hv with ⟨x1,m,n,e1⟩ | ⟨x1,c,e1,o,q2,q3⟩
   · exact .inl ⟨x1,m,n.at' fun o e => hk _ o (hsep _ (.inl rfl)) e,e1⟩
   · exact .inr ⟨x1,c,e1,o,hk c o (hcel c _ ⟨o,q2,q3⟩) q2,q3⟩
 · rcases mem_append.mp hm with hm | hm
   · exact hnc _ hm
   · rcases hmem b x hm with ⟨n,q⟩ | ⟨rfl,rfl⟩
     · exact (S.e.mem b x q).to (fun o q => hk b o n q) hmv
     · exact hc
 · refine hk b o (fun z => ?_) (S.keep b o n q)
   rcases S.fresh P hP with y | y
   · exact n (z ▸ y)
   · rw [z,y] at q; cases q
 · by_cases z : Own₀ b
   · exact .inl z
   · refine .inr ?_
     cases q : s₀.heap.get? b with
     | none => rfl
     | some o => have:=S.keep b o z q; rw [hnew b m] at this; cases this
 · cases q : B.get? b with
   | none => rfl
   | some o => have:=S.e.base b o q; rw [hnew b m] at this; cases this
 · rcases mem_append.mp hm with hm | hm
   · intro z
     obtain ⟨o,q⟩:=S.f.has z
     rw [hn _ hm] at q; cases q
   · rcases hmem b x hm with ⟨n,q⟩ | ⟨rfl,rfl⟩
     · exact S.sep b x q
     · exact S.sep b d (mem_append_right _ (.head _))
 · rw [map_append,nodup_append]
   refine ⟨hnd,by simpa using hnd0,fun a ha b hb q => ?_⟩
   obtain ⟨p,hp,e2⟩:=mem_map.mp hb
   have : ∃ o,s.heap.get? p.1 = some o:=by
     rcases hmem p.1 p.2 hp with ⟨n,q⟩ | ⟨q,_⟩
     · exact yR (S.e.mem _ _ q)
     · rw [q]; exact yR hPc
   obtain ⟨o,q2⟩:=this
   rw [e2,← q,hnew _ ha] at q2; cases q2
theorem zd.rp_list {h : Heap} {M M₁ : Addr → Prop} {a : Addr} {ds : List D} (c : zd prog w h M a (.list ds)) (hm : ∀ x,M₁ x → M x) (ha : ¬ M₁ a) : Rp prog w h M₁ (.ref a) (.list ds):=by
 cases c with | list p q => exact .list p ha (q.less hm)
theorem Rm.typecall {C : Addr} {vs : List Value} (r : Rm A 3) : Rm (A.under (.builtin "type.__call__" ⟨.ref C :: vs,[]⟩)) 2:=by
 have hw : (Code.builtin "type.__call__" ⟨.ref C :: vs,[]⟩).weight = 1:=rfl
 have hu : (Code.builtin "type.__call__" ⟨.ref C :: vs,[]⟩).cUnits = 1:=rfl
 exact r.under ⟨rfl,by show A.depth + _ ≤ _; omega,by show A.units + _ ≤ _; omega⟩
theorem YA : typeLookup (.type "re.Match") (ofString "__bool__") = pure none:=by rw [typeLookup_type,builtinLookup_eq_fast]; kernel_rfl
theorem XN : typeLookup (.type "re.Match") (ofString "__len__") = pure none:=by rw [typeLookup_type,builtinLookup_eq_fast]; kernel_rfl
noncomputable def xo (code : Array Nat) (x : Str) : Bool:=match kz (x.cps.size + 5) (Sre.forSearch code x.cps 0 0 x.cps.size false) with
 | some m => (match m.outcome with | some .matched => true | _ => false)
 | none => false
noncomputable def W7 (h : Heap) (v : Value) : Prop:=∃ a o,v = .ref a ∧ h.get? a = some o ∧ o.cls = .type "re.Match"
theorem YR {v : Value} {Q : Bool → Shared → Prop} (hv : W7 s.heap v) (h : Q true s) : wpAny (model prog w) A (truthy v) Q E s:=by
 obtain ⟨a,o,rfl,ho,hc⟩:=hv
 have hT : s.TypeIs (.ref a) "re.Match" := ⟨o,ho,hc⟩
 unfold truthy
 refine wpAny_bind (wpAny_callSpecial?_none (name:=ofString "__bool__") hT YA ?_)
 refine wpAny_bind (wpAny_specialOf (name:=ofString "__len__") hT XN ?_)
 exact wpAny_pure h
theorem YJ {a : Addr} {code : Array Nat} {x : Str} {t : Tok} {Q : Value → Shared → Prop} (P : wV B a code) (X : zS B s.heap) (hx : xo code x = true) (hs : x.cps.size < 2 ^ 63) (hQ : ∀ v s',Keeps s s' → W7 s'.heap v → Q v s') :
  wpAny (model prog w) A (PySem.call (.builtin "re.Pattern.search") [.ref a,.str x t]) Q E s :=
 jD P X hs (by
  intro r h1 h2 h3 h4 h5
  rw [h1,h2,h3,h4,h5]
  unfold xo at hx
  split at hx
  · rename_i m hm
    unfold Builtin.Re.reAnswer Builtin.Re.reRunToEnd
    refine wpAny_bind (wpAny_bind (qK _ _ _ _ hm (by have : (2 : Nat) ^ 63 + 5 ≤ 2 ^ 64:=(by decide); omega) ?_))
    refine wpAny_bind (jv m ?_ _)
    split at hx
    · rename_i hf
      rw [hf]
      refine wpAny_pure ?_
      unfold Builtin.Re.reNewMatch
      dsimp only
      refine wpAny_bind ?_
      rw [h3,if_neg (by simp)]
      refine wpAny_bind (wpAny_newObj_type (hd:=by show (2 : Nat) ≤ sizeLine; rw [sizeLine_eq]; decide) ?_)
      refine wpAny_newObj_type (wpAny_pure ⟨_,rfl,hQ _ _ (zA (zM s _ s.toks) (zM _ _ s.toks)) ⟨_,_,rfl,get?_push_size _ rfl,rfl⟩⟩)
    · cases hx
  · cases hx)
theorem Tv.search {xv : Str} {a : Addr} {code : Array Nat} {x : Str} {e : Expr} {xp apos pos : Pos} (S : En prog w B names env h M ρ μ) (hm : (xv,RV.val (.ref a)) ∈ ρ) (hdb : (xv == ("__debug__" : Str)) = false) (P : wV B a code) (he : Ev prog w A h e env (PR prog w M (.str x)))
   (hx : xo code x = true) (hs : x.cps.size < 2 ^ 63) (hst : ∀ rest,starEach (e :: rest) env = (false,eval e env) :: starEach rest env) (hline : (apos.endLine == pos.line) = true) :
   Tv prog w A h (.Call (.Attribute (.Name xv xp) (ofString "search") apos) [e] [] pos) env true:=by
 obtain ⟨ob,vs,c,its,n,ho,hc,hdi,r⟩:=P.ob
 intro s E Q kx hQ
 have hx1 : yy prog w A h env M [e] [.str x]:=.cons he .nil hst
 refine isTrue_plain (he:=rfl) ?_
 refine wpAny_Call_method (by rfl) ?_ hline ki w0 jZ (Ev.var S hm hdb s E _ kx fun ov s₁ k₁ e => ?_)
 · rw [hx1.few]; rfl
 cases e
 have hob : s₁.heap.get? a = some ob:=ke k₁ _ _ (kx _ _ (S.base _ _ ho))
 refine ⟨⟨_,hob,hc⟩,fun b e => by cases e; exact ⟨_,hob,hdi⟩, ?_⟩
 refine yX hx1 (kx.trans (ke k₁)) fun vs s₂ k₂ rs => ?_
 have X:=kx.trans ((ke k₁).trans (ke k₂))
 obtain ⟨v,rfl,rv⟩:=rs.one_inv
 obtain ⟨t,rfl⟩:=rv.str_inv
 exact YJ P (S.base.trans X) hx hs fun v s₃ k₃ hv => YR hv (hQ _ (zA k₁ (zA k₂ k₃)))
theorem KQ (b : Bool) (l : Addr) (items : Array Value) (n : Nat) :
  Meets (Builtin.«int.__rmul__» ⟨[.bool b,.ref l],[]⟩) (fun _ R s => s.heap.get? l = some { cls:=.type "list",dict:=none,data:=.seq items n,slots:=#[] } ∧ R (.ok (.ret Value.notImplemented)) s) :=
 .of_wp fun prog w A R s h => by obtain ⟨hp,g,d,tk,os⟩:=s; obtain ⟨hl,h⟩:=h; wp_walk; exact ⟨_,rfl,h⟩
theorem zAo (l : Addr) (items : Array Value) (n : Nat) (b : Bool) (hc0 : ¬(!Builtin.List.listFitsIndex (if b = true then (1 : Int) else 0)) = true) (hc1 : ¬items.size * (if b = true then (1 : Int) else 0).toNat > (2 ^ 63 - 1) / 8) (hc2 : ¬Builtin.List.listTooLong (items.size * (if b = true then (1 : Int) else 0).toNat) = true) :
  Meets (Builtin.«list.__mul__» ⟨[.ref l,.bool b],[]⟩) (fun _ R s => s.heap.get? l = some { cls:=.type "list",dict:=none,data:=.seq items n,slots:=#[] } ∧ R (.ok (.ret (Value.ref s.heap.objs.size))) { s with heap:=s.heap.push { cls:=Value.type "list",data:=Data.seq (foldl (fun x1 x2 => x1 ++ x2) #[] (List.replicate (if items.isEmpty = true then 0 else (if b = true then (1 : Int) else 0).toNat) items)) },toks:=s.toks }) :=
 .of_wp fun prog w A R s h => by
  obtain ⟨hp,g,d,tk,os⟩:=s; obtain ⟨hl,h⟩:=h
  have hsz:=AutoListH.joined_fits hc2
  wp_walk; refine wpAny_ite_false (decide_eq_false (Nat.not_lt.mpr hsz)) ?_; wp_walk; exact ⟨_,rfl,h⟩
theorem yC.mulLB (xs : List D) (b : Bool) (hs : xs.length ≤ 1000) : yC prog w .Mult (.list xs) (.bool b) (.list (if b then xs else [])):=by
 intro A M s E Q a n old ra rn hQ
 obtain ⟨l,vs,rfl,⟨k,ho⟩,r⟩:=ra.list_inv
 cases rn.bool_inv
 have hlen:=r.length
 have hm : vs.length * (if b = true then (1 : Int) else 0).toNat ≤ 1000:=by
   cases b
   · simp
   · simp; omega
 refine wpAny_binaryOp_repeat_ref (T := "list") (U := "bool") (by decide) ⟨_,ho,rfl⟩ (fun s' => typeIs_bool' s' b) noFill_list_mul F.fills_bool_mul F.slot_bool_rmul repeat_list F.slot_bool_index.lookup
   (call_meets F.slot_bool_rmul (typeIs_bool' s b) F.entry_int_rmul (F.args_int_rmul_2 _ _) (KQ b l vs.toArray k) ⟨ho,rfl,⟨_,ho,rfl⟩,call_meets F.slot_list_mul ⟨_,ho,rfl⟩ F.entry_list_mul (F.args_list_mul_2 _ _)
      (zAo l vs.toArray k b (by cases b <;> decide) (by rw [size_toArray]; omega) (by rw [size_toArray]; simp only [Builtin.List.listTooLong,sizeLine_eq,decide_eq_true_eq]; omega)) ⟨ho, ?_⟩⟩)
 have e : foldl (fun x1 x2 => x1 ++ x2) #[] (List.replicate (if vs.toArray.isEmpty = true then 0 else (if b = true then (1 : Int) else 0).toNat) vs.toArray) = (if b then vs else []).toArray:=by
   rw [ZT]
   cases b
   · cases vs <;> (apply ext'; simp)
   · cases vs <;> (apply ext'; simp)
 rw [e]
 refine hQ _ _ (zM s _ s.toks) (.list (vs:=if b then vs else []) ⟨0,get?_push_size _ rfl⟩ (xY old) ?_)
 cases b
 · exact .nil
 · exact r.ext fun _ _ e => get?_push_of_some _ e
theorem Kw : ∀ {vs : List Value} {ds : List D},vs.length = ds.length → (∀ (j : Nat) v d,vs[j]? = some v → ds[j]? = some d → Rp prog w h M v d) → zH prog w h M vs ds
 | [],[],_,_ => .nil
 | v :: vs,d :: ds,hl,H => .cons (H 0 v d rfl rfl) (Kw (Nat.succ.inj hl) fun j v d => H (j + 1) v d)
theorem zG.listR (n : Nat) (hn : n ≤ 1000) (hs : Builtin.Range.small 0 n 1 = true) (hz : Builtin.Range.rangeSize 0 n 1 = n) : zG prog w k B (.type "list") [.rng 0 (n : Nat) 1] (.list ((List.range n).map zC)):=by
 intro A M s E Q vs R X old rs hQ
 obtain ⟨v,rfl,r⟩:=rs.one_inv
 obtain ⟨a,t,u,z,rfl,hr⟩:=r.rng_inv
 refine call_list_range R.hh hr hs hz (by omega) fun h' tk acc c kk hS hI => ?_
 refine hQ _ _ ⟨h',tk,rfl,kk⟩ (.list (vs:=acc.toList) ⟨c,hS⟩ (xY old) (Kw (by simp [hI.1]) fun j v d hv hd => ?_))
 obtain ⟨t,rfl⟩:=hI.2 j v (by rw [← getElem?_toList]; exact hv)
 rw [getElem?_map] at hd
 obtain ⟨i,hi,rfl⟩:=map_eq_some_iff.mp hd
 obtain ⟨h1,h2⟩:=List.getElem?_eq_some_iff.mp hi
 rw [List.getElem_range] at h2
 subst h2
 rw [show (0 : Int) + (j : Int) * 1 = (j : Int) by omega]
 exact .int _ _
noncomputable def ka (h : Heap) (x : Addr) (a i : Int) : Prop:=∃ t u n,h.get? x = some { cls:=.type "tuple",dict:=none,data:=.seq #[.int a t,.int i u] n,slots:=#[] }
theorem ka.at {h h' : Heap} {x : Addr} {a i : Int} (p : ka h x a i) (k : ∀ o,h.get? x = some o → h'.get? x = some o) : ka h' x a i:=let ⟨t,u,n,e⟩:=p; ⟨t,u,n,k _ e⟩
noncomputable def XG (a i b j : Int) : Bool:=if a == b then (if i == j then false else decide (i < j)) else decide (a < b)
theorem Zq {α : Type} {n : Nat} {cmp : Nat → Nat → Bool} {c : Nat → Nat → (Bool → Shared → Prop) → Shared → Prop} {Q : α → Shared → Prop} {s : Shared} (hc : ∀ i j C,i < n → j < n → C (cmp i j) s → c i j C s) : ∀ (t : KasT α) (a : α),xj n cmp t = some a → Q a s → t.kasWp c Q s
 | .ret b,a,e,h => by cases e; exact h
 | .ask i j k,a,e,h => by
  rw [kh] at e
  by_cases hij : i < n ∧ j < n
  · rw [if_pos hij] at e
    exact hc i j _ hij.1 hij.2 (Zq hc (k (cmp i j)) a e h)
  · rw [if_neg hij] at e; cases e
theorem zBF {x y : Addr} {a i b j : Int} {Q : Bool → Shared → Prop} (hx : ka s.heap x a i) (hy : ka s.heap y b j) (h : Q (XG a i b j) s) : wpAny (model prog w) A (keyLt' (tuples' true) (.ref x) (.ref y)) Q E s:=by
 obtain ⟨t,u,n,ex⟩:=hx
 obtain ⟨t',u',n',ey⟩:=hy
 refine kat_lt ex rfl ey rfl ?_
 show KatLex prog w A true (decide (2 < 2)) Q [(.int a t,.int b t'),(.int i u,.int j u')] 0 s
 unfold XG at h
 refine kat_cons (wpAny_eqBool_int ?_)
 by_cases e : (a == b) = true
 · rw [if_pos e] at h
   rw [e]
   refine kat_yes (kat_cons (wpAny_eqBool_int ?_))
   by_cases f : (i == j) = true
   · rw [if_pos f] at h
     rw [f]
     exact kat_yes (kat_nil h)
   · rw [if_neg f] at h
     rw [Bool.not_eq_true] at f
     rw [f]
     exact kat_no (kat_one _ _ (lt_int h))
 · rw [if_neg e] at h
   rw [Bool.not_eq_true] at e
   rw [e]
   exact kat_no (oneLt_int h)
theorem Xv {a : Addr} {n₀ : Nat} {vs : List Value} {K I : Nat → Int} {p : Array Nat} {P : PySem.Fin → Shared → Prop} (ho : s.heap.get? a = some (seqObj "list" vs.toArray n₀)) (h2 : 2 ≤ vs.length) (h64 : vs.length < 64)
   (hv : ∀ k < vs.length,∃ x,vs[k]? = some (.ref x) ∧ x ≠ a ∧ ka s.heap x (K k) (I k)) (hp : xj vs.length (fun i j => XG (K i) (I i) (K j) (I j)) (kas_sort vs.length) = some p)
   (h : ∀ h' c,p.size = vs.length → (∀ b o,b ≠ a → s.heap.get? b = some o → h'.get? b = some o) → h'.get? a = some (seqObj "list" (toArray (p.toList.map fun i => vs.getD i .none)) c) → P (.done (.ret .none)) { s with heap:=h' }) :
   wpAny (model prog w) A (Builtin.«list.sort» ⟨[.ref a],[]⟩) P E s:=by
 have s1:=Heap.SameBut.update s.heap a (Obj.mapSeq fun _ => (#[] : Array Value))
 obtain ⟨e1,ho1⟩ : ∃ e1,(s.heap.update a (Obj.mapSeq fun _ => (#[] : Array Value))).get? a = some (seqObj "list" #[] e1):=⟨_,get?_update_seq ho fun _ => #[]⟩
 rw [list_sort_plain]
 refine wpAny_bind (listItems_at ho rfl ?_)
 refine wpAny_bind (listUpdate_at ho rfl ?_ (by rw [size_toArray,sizeLine_eq]; omega) (zero_le _))
 refine wpAny_bind (seqEpoch_at ho1 rfl ?_)
 refine wpAny_bind (wpAny_newTuple ?_ (by show vs.length ≤ _; rw [sizeLine_eq]; omega))
 refine wpAny_bind (wpAny_newList ?_ (zero_le _))
 refine wpAny_holding ?_
 have hk3 : ∀ b o,b ≠ a → s.heap.get? b = some o → (((s.heap.update a (Obj.mapSeq fun _ => (#[] : Array Value))).push (seqObj "tuple" vs.toArray 0)).push (seqObj "list" #[] 0)).get? b = some o:=fun b o n e => get?_push_of_some _ (get?_push_of_some _ ((s1.2 b n).trans e))
 have ho3 : (((s.heap.update a (Obj.mapSeq fun _ => (#[] : Array Value))).push (seqObj "tuple" vs.toArray 0)).push (seqObj "list" #[] 0)).get? a = some (seqObj "list" #[] e1):=get?_push_of_some _ (get?_push_of_some _ ho1)
 show wpAny (model prog w) A _ P E { s with heap:=((s.heap.update a (Obj.mapSeq fun _ => (#[] : Array Value))).push (seqObj "tuple" vs.toArray 0)).push (seqObj "list" #[] 0) }
 generalize ((s.heap.update a (Obj.mapSeq fun _ => (#[] : Array Value))).push (seqObj "tuple" vs.toArray 0)).push (seqObj "list" #[] 0) = h3 at hk3 ho3
 have hv3 : ∀ k < vs.length,∃ x,vs[k]? = some (.ref x) ∧ ka h3 x (K k) (I k):=fun k hk => by
   obtain ⟨x,e1,e2,e3⟩:=hv k hk
   exact ⟨x,e1,e3.at fun o e => hk3 _ o e2 e⟩
 clear hv
 dsimp only
 have hn2 : ¬ vs.toArray.size < 2:=by rw [size_toArray]; omega
 rw [if_neg hn2,if_neg hn2]
 have htups : ∀ (l : List Value) (g : Nat → Int),(∀ k < l.length,∃ x i,l[k]? = some (.ref x) ∧ ka h3 x (g k) i) → ∃ fs,KatTups h3 l fs ∧ fs.length = l.length ∧ ∀ v ∈ fs,∃ c t,v = .int c t:=by
   intro l
   induction l with
   | nil => intro g _; exact ⟨[],KatTups.nil,rfl,fun v h => nomatch h⟩
   | cons v l ih =>
    intro g hl
    obtain ⟨x,i,e,t,u,n,ex⟩:=hl 0 (by simp)
    have e : v = .ref x:=by simpa using e
    subst e
    obtain ⟨fs,q1,q2,q3⟩:=ih (fun k => g (k + 1)) fun k hk => by simpa using hl (k + 1) (by simpa using hk)
    refine ⟨.int (g 0) t :: fs,KatTups.cons ex rfl rfl rfl q1,by simp [q2],fun v hv => ?_⟩
    rcases mem_cons.mp hv with rfl | hv
    · exact ⟨_,_,rfl⟩
    · exact q3 v hv
 obtain ⟨fs,q1,q2,q3⟩:=htups vs K fun k hk => let ⟨x,e1,e2⟩:=hv3 k hk; ⟨x,I k,e1,e2⟩
 refine wpAny_bind (kat_kind (T:=.type "int") (s:={ s with heap:=h3 }) q1 (by omega) (fun v hv => ?_) (by decide) ?_)
 · obtain ⟨c,t,rfl⟩:=q3 v hv
   exact Looks.of_pure rfl
 rw [show (Value.type "int" != Value.type "tuple") = true from by decide]
 have hrun : (kas_sort vs.length).kasWp (kas_ask prog w A (tuples' true) vs) (fun p' s' => p' = p ∧ s' = { s with heap:=h3 }) { s with heap:=h3 }:=by
   have hg : ∀ k < vs.length,∃ x,vs.getD k .none = .ref x ∧ ka h3 x (K k) (I k):=fun k hk => by
    obtain ⟨x,e1,e2⟩:=hv3 k hk
    exact ⟨x,by rw [getD_eq_getElem?_getD,e1]; rfl,e2⟩
   refine (Zq (n:=vs.length) (cmp:=fun i j => XG (K i) (I i) (K j) (I j)) (Q:=fun p' s' => p' = p ∧ s' = { s with heap:=h3 }) (s:={ s with heap:=h3 }) (fun i j C hi hj hC => ?_) _ _ hp ⟨rfl,rfl⟩)
   obtain ⟨x,e1,e2⟩:=hg i hi
   obtain ⟨y,e3,e4⟩:=hg j hj
   show wpAny _ _ (keyLt' _ _ _) _ _ _
   rw [e1,e3]
   exact zBF e2 e4 hC
 refine wpAny_bind (wpAny_mono (kat_run (Q:=fun st' s' => s' = { s with heap:=h3 } ∧ p.size = vs.length ∧ arrOf st' = p.map (kas_item (vs.toArray.zip vs.toArray)) ∧ failedOf st' = none)
   rfl h2 h64 (fun p' st' s' a1 a2 a3 a4 => by obtain ⟨rfl,rfl⟩:=a4; exact ⟨rfl,a1,a2,a3⟩) hrun) ?_ fun _ _ e => e)
 rintro ⟨⟨⟩,st'⟩ s' ⟨rfl,hps,har,hf⟩
 dsimp only at har hf ⊢
 have hout:=kat_snds rfl har
 have hsz : (toArray (p.toList.map fun i => vs.getD i Value.none)).size = vs.length:=by rw [size_toArray,length_map,length_toList,hps]
 rw [hout]
 have s2:=Heap.SameBut.update h3 a (Obj.mapSeq fun _ => toArray (p.toList.map fun i => vs.getD i Value.none))
 obtain ⟨c2,hc2⟩ : ∃ c2,(h3.update a (Obj.mapSeq fun _ => toArray (p.toList.map fun i => vs.getD i Value.none))).get? a = some (seqObj "list" (toArray (p.toList.map fun i => vs.getD i Value.none)) c2):=⟨_,get?_update_seq ho3 fun _ => toArray (p.toList.map fun i => vs.getD i Value.none)⟩
 refine wpAny_bind (seqEpoch_at ho3 rfl ?_)
 refine wpAny_bind (listUpdate_at ho3 rfl ?_ (zero_le _) (le_trans (le_of_eq hsz) (by rw [sizeLine_eq]; omega)))
 rw [hf]
 simp only [bne_self_eq_false,false_eq_true,if_false]
 exact wpAny_pure (h _ c2 hps (fun b o n e => (s2.2 b n).trans (hk3 b o n e)) hc2)
theorem JB {a : Addr} {n₀ : Nat} {vs : List Value} {P : PySem.Fin → Shared → Prop} (ho : s.heap.get? a = some (seqObj "list" vs.toArray n₀)) (h2 : vs.length < 2)
  (h : ∀ h' c,(∀ b o,b ≠ a → s.heap.get? b = some o → h'.get? b = some o) → h'.get? a = some (seqObj "list" vs.toArray c) → P (.done (.ret .none)) { s with heap:=h' }) :
  wpAny (model prog w) A (Builtin.«list.sort» ⟨[.ref a],[]⟩) P E s:=by
 have s1:=Heap.SameBut.update s.heap a (Obj.mapSeq fun _ => (#[] : Array Value))
 obtain ⟨e1,ho1⟩ : ∃ e1,(s.heap.update a (Obj.mapSeq fun _ => (#[] : Array Value))).get? a = some (seqObj "list" #[] e1):=⟨_,get?_update_seq ho fun _ => #[]⟩
 rw [list_sort_plain]
 refine wpAny_bind (listItems_at ho rfl ?_)
 refine wpAny_bind (listUpdate_at ho rfl ?_ (by rw [size_toArray,sizeLine_eq]; omega) (zero_le _))
 refine wpAny_bind (seqEpoch_at ho1 rfl ?_)
 refine wpAny_bind (wpAny_newTuple ?_ (by show vs.length ≤ _; rw [sizeLine_eq]; omega))
 refine wpAny_bind (wpAny_newList ?_ (zero_le _))
 refine wpAny_holding ?_
 have hk3 : ∀ b o,b ≠ a → s.heap.get? b = some o → (((s.heap.update a (Obj.mapSeq fun _ => (#[] : Array Value))).push (seqObj "tuple" vs.toArray 0)).push (seqObj "list" #[] 0)).get? b = some o:=fun b o n e => get?_push_of_some _ (get?_push_of_some _ ((s1.2 b n).trans e))
 have ho3 : (((s.heap.update a (Obj.mapSeq fun _ => (#[] : Array Value))).push (seqObj "tuple" vs.toArray 0)).push (seqObj "list" #[] 0)).get? a = some (seqObj "list" #[] e1):=get?_push_of_some _ (get?_push_of_some _ ho1)
 show wpAny (model prog w) A _ P E { s with heap:=((s.heap.update a (Obj.mapSeq fun _ => (#[] : Array Value))).push (seqObj "tuple" vs.toArray 0)).push (seqObj "list" #[] 0) }
 generalize ((s.heap.update a (Obj.mapSeq fun _ => (#[] : Array Value))).push (seqObj "tuple" vs.toArray 0)).push (seqObj "list" #[] 0) = h3 at hk3 ho3
 dsimp only
 have hn2 : vs.toArray.size < 2:=by rw [size_toArray]; exact h2
 rw [if_pos hn2,if_pos hn2]
 refine wpAny_bind (wpAny_pure ?_)
 refine wpAny_bind (wpAny_pure ?_)
 have hout : (arrOf (SortSt.mk' general' (vs.toArray.zip vs.toArray) #[] 7 none)).map (·.2) = vs.toArray:=by
  show (vs.toArray.zip vs.toArray).map (·.2) = _
  apply Array.toList_inj.mp
  rw [Array.toList_map,Array.toList_zip,List.toList_toArray]
  exact List.map_snd_zip (le_refl _)
 dsimp only
 rw [hout]
 have s2:=Heap.SameBut.update h3 a (Obj.mapSeq fun _ => vs.toArray)
 obtain ⟨c2,hc2⟩ : ∃ c2,(h3.update a (Obj.mapSeq fun _ => vs.toArray)).get? a = some (seqObj "list" vs.toArray c2):=⟨_,get?_update_seq ho3 fun _ => vs.toArray⟩
 refine wpAny_bind (seqEpoch_at ho3 rfl ?_)
 refine wpAny_bind (listUpdate_at ho3 rfl ?_ (zero_le _) (by rw [size_toArray,sizeLine_eq]; omega))
 simp only [bne_self_eq_false,false_eq_true,if_false]
 exact wpAny_pure (h _ c2 (fun b o n e => (s2.2 b n).trans (hk3 b o n e)) hc2)
noncomputable abbrev vB (h : Heap) (z TI TO : Addr) (f0 : Value) (b1 : Bool) : Prop:=h.get? z = some { cls:=.type "zip",dict:=none,data:=.fields #[f0,.bool b1,.bool false,.ref TI,.ref TO],slots:=#[] }
theorem Qx {M : Model} {A : Around} {E : Value → Shared → Prop} {s : Shared} {a : Addr} {o : Obj} {Q : Option Obj → Shared → Prop} (ho : s.heap.get? a = some o) (h : Q (some o) s) : wpAny M A (loadIfAlive a) Q E s:=by
 have h' : Q (s.heap.get? a) s:=by rw [ho]; exact h
 exact fun _ _ _ => h'
theorem q8 {it : Addr} {x left step : Int} {Q : Value → Shared → Prop} (hit : IsRangeIter s.heap it x left step) (hleft : 0 < left)
  (hQ : ∀ h',IsRangeIter h' it (x + step) (left - 1) step → Heap.SameBut it s.heap h' → Q (.int x s.toks) { s with heap:=h',toks:=s.toks + 1 }) : wpAny (model prog w) A (Builtin.SmallTypes.nextOf (.ref it)) Q E s:=by
 have hT : s.TypeIs (.ref it) "range_iterator" := ⟨_,hit,rfl⟩
 unfold Builtin.SmallTypes.nextOf
 refine wpAny_bind (wpAny_callSpecial?_slot (name:=ofString "__next__") hT F.slot_range_iterator_next
  (call_meets F.slot_range_iterator_next hT F.entry_range_iterator_next (F.args_range_iterator_next_1 _) (AutoRange.range_iterator___next___range_iterator_1 it x left step (by omega)) ⟨hit, ?_⟩))
 exact wpAny_pure (hQ _ (get?_update_self _ (get?_update_self _ hit rfl) rfl) ((Heap.SameBut.update ..).trans (Heap.SameBut.update ..)))
theorem Kl {z TI TO T : Addr} {oT : Obj} {b1 : Bool} (hz : vB s.heap z TI TO (rawInt T) b1) (hT : s.heap.get? T = some oT) :
  wpAny (model prog w) A (Builtin.SmallTypes.ownedTupleIsFree (.ref z)) (fun b s' => b = false ∧ ∃ h',s' = { s with heap:=h' } ∧ vB h' z TI TO (rawInt T) true ∧ Heap.SameBut z s.heap h') E s:=by
 unfold Builtin.SmallTypes.ownedTupleIsFree
 refine wpAny_bind (wpAny_field hz rfl (x:=rawInt T) rfl ?_)
 show wpAny _ _ (loadIfAlive ((T : Int).toNat) >>= _) _ _ _
 rw [toNat_natCast]
 refine wpAny_bind (Qx hT ?_)
 simp only [Option.isNone_some,false_eq_true,if_false]
 refine wpAny_bind (wpAny_field hz rfl (x:=.bool b1) rfl ?_)
 cases b1 with
 | true =>
  rw [if_neg (show ¬ ((Value.bool true != Value.bool true) = true) from Bool.false_ne_true)]
  exact wpAny_pure ⟨rfl,_,rfl,hz,Heap.SameBut.refl _ _⟩
 | false =>
  rw [if_pos (show (Value.bool false != Value.bool true) = true from rfl)]
  refine wpAny_bind (wpAny_setField_rec hz (by simp) fun h₃ he₃ hs₃ => ?_)
  exact wpAny_pure ⟨rfl,h₃,rfl,he₃,hs₃⟩
theorem Jg {z TI TO i1 i2 l1 : Addr} {k : Nat} {xs : Array Value} {a b : Value} {G : PySem.Fin → Shared → Prop} (D : ZipApart z TI TO i1 i2 l1 l1)
   (hz : vB s.heap z TI TO .none false) (hTI : IsPair s.heap TI (.ref i1) (.ref i2)) (hTO : IsPair s.heap TO a b) (h1 : s.heap.IsListIter i1 l1 k) (hl1 : s.heap.IsList l1 xs)
   (hx : (∃ v left x,xs[k]? = some v ∧ IsRangeIter s.heap i2 x left 1 ∧ 0 < left ∧ ∀ h',vB h' z TI TO (rawInt s.heap.objs.size) false → h'.IsListIter i1 l1 (k + 1) → IsRangeIter h' i2 (x + 1) (left - 1) 1 → IsPair h' s.heap.objs.size v (.int x s.toks) → h'.objs.size = s.heap.objs.size + 1 →
    (∀ c o,c ≠ z → c ≠ TO → c ≠ i1 → c ≠ i2 → s.heap.get? c = some o → h'.get? c = some o) → G (.done (.ret (.ref s.heap.objs.size))) { s with heap:=h',toks:=s.toks + 1 }) ∨
    (A.handled = none ∧ xs[k]? = none ∧ ∀ h' e,(∀ c o,c ≠ z → c ≠ TO → c ≠ i1 → c ≠ i2 → s.heap.get? c = some o → h'.get? c = some o) → (∃ o,h'.get? e = some o ∧ o.cls = .type "StopIteration") → E (.ref e) { s with heap:=h' })) :
   wpAny (model prog w) A (Builtin.«zip.__next__» ⟨[.ref z],[]⟩) G E s:=by
 show wpAny _ _ (field (.ref z) 2 >>= _) _ _ _
 refine wpAny_bind (wpAny_field hz rfl (x:=.bool false) rfl ?_)
 show wpAny _ _ (field (.ref z) 3 >>= _) _ _ _
 refine wpAny_bind (wpAny_field hz rfl (x:=.ref TI) rfl ?_)
 refine wpAny_bind (wpAny_seqItems hTI rfl ?_)
 show wpAny _ _ (Builtin.SmallTypes.ownedTupleIsFree (.ref z) >>= _) _ _ _
 refine wpAny_bind ?_
 unfold Builtin.SmallTypes.ownedTupleIsFree
 refine wpAny_bind (wpAny_field hz rfl (x:=.none) rfl (wpAny_pure ?_))
 simp only [if_true]
 refine wpAny_bind (wpAny_rule ?_)
 refine wpAny_bind (wpAny_field hz rfl (x:=.ref TO) rfl ?_)
 refine wpAny_bind (wpAny_setField_rec hz (by simp) fun h₁ hz₁ hs₁ => ?_)
 replace hz₁ : vB h₁ z TI TO .ellipsis false:=hz₁
 refine wpAny_bind ?_
 simp only [List.zipIdx_cons,List.zipIdx_nil,forIn_cons,forIn_nil]
 refine wpAny_bind (wpAny_bind (wpAny_onRaise ?_))
 show wpAny _ _ (Builtin.SmallTypes.nextOf (.ref i1) >>= _) _ _ _
 rcases hx with ⟨v,left,x,hx,h2,hy,hQ⟩ | ⟨hh,hend,hE⟩
 · refine wpAny_bind (wpAny_nextOf_list_item (h1.extBut hs₁.extBut D.i1z) (hl1.extBut hs₁.extBut D.l1z) hx fun h₂ h1₂ hs₂ => wpAny_pure ?_)
   have hTO₂ : IsPair h₂ TO a b:=hs₂.extBut _ _ D.TOi1 (hs₁.extBut _ _ D.TOz hTO)
   refine wpAny_bind (wpAny_seqItems hTO₂ rfl ?_)
   refine wpAny_bind (wpAny_updateSeq_pair hTO₂ fun h₃ hTO₃ hs₃ => ?_)
   replace hTO₃ : IsPair h₃ TO v b:=hTO₃
   refine wpAny_bind (wpAny_letGo (wpAny_pure ?_))
   refine wpAny_bind (wpAny_bind (wpAny_onRaise ?_))
   show wpAny _ _ (Builtin.SmallTypes.nextOf (.ref i2) >>= _) _ _ _
   refine wpAny_bind (q8 (hs₃.extBut _ _ D.TOi2.symm (hs₂.extBut _ _ D.i12.symm (hs₁.extBut _ _ D.i2z h2))) hy fun h₄ h2₄ hs₄ => wpAny_pure ?_)
   have hTO₄ : IsPair h₄ TO v b:=hs₄.extBut _ _ D.TOi2 hTO₃
   refine wpAny_bind (wpAny_seqItems hTO₄ rfl ?_)
   refine wpAny_bind (wpAny_updateSeq_pair hTO₄ fun h₅ hTO₅ hs₅ => ?_)
   replace hTO₅ : IsPair h₅ TO v (.int x s.toks):=hTO₅
   refine wpAny_bind (wpAny_letGo (wpAny_pure (wpAny_pure ?_)))
   refine wpAny_bind (wpAny_seqItems hTO₅ rfl ?_)
   refine wpAny_bind (wpAny_newTuple ?_)
   have hsz : h₅.objs.size = s.heap.objs.size:=by rw [hs₅.1,hs₄.1,hs₃.1,hs₂.1,hs₁.1]
   have hz₅ : vB h₅ z TI TO .ellipsis false:=hs₅.extBut _ _ D.TOz.symm (hs₄.extBut _ _ D.i2z.symm (hs₃.extBut _ _ D.TOz.symm (hs₂.extBut _ _ D.i1z.symm hz₁)))
   have hk₅ : ∀ c o,c ≠ z → c ≠ TO → c ≠ i1 → c ≠ i2 → s.heap.get? c = some o → h₅.get? c = some o:=fun c o c1 c2 c3 c4 e =>
    hs₅.extBut _ _ c2 (hs₄.extBut _ _ c4 (hs₃.extBut _ _ c2 (hs₂.extBut _ _ c3 (hs₁.extBut _ _ c1 e))))
   have h1₅ : h₅.IsListIter i1 l1 (k + 1):=((h1₂.extBut hs₃.extBut D.TOi1.symm).extBut hs₄.extBut D.i12).extBut hs₅.extBut D.TOi1.symm
   have h2₅ : IsRangeIter h₅ i2 (x + 1) (left - 1) 1:=hs₅.extBut _ _ D.TOi2.symm h2₄
   have hzlt : z < h₅.objs.size:=lt_size hz₅
   show wpAny _ _ (Builtin.SmallTypes.ownedTupleHandOut (.ref z) (.ref h₅.objs.size) >>= _) _ _ _
   refine wpAny_bind ?_
   unfold Builtin.SmallTypes.ownedTupleHandOut
   have hz₆ : vB (h₅.push { cls:=.type "tuple",data:=.seq #[v,.int x s.toks] }) z TI TO .ellipsis false:=get?_push_of_some _ hz₅
   refine wpAny_bind (wpAny_setField_rec hz₆ (by simp) fun h₇ hz₇ hs₇ => ?_)
   replace hz₇ : vB h₇ z TI TO (rawInt h₅.objs.size) false:=hz₇
   refine wpAny_setField_rec hz₇ (by simp) fun h₈ hz₈ hs₈ => ?_
   replace hz₈ : vB h₈ z TI TO (rawInt h₅.objs.size) false:=hz₈
   have up : ∀ c o,c ≠ z → h₅.get? c = some o → h₈.get? c = some o:=fun c o c1 e => hs₈.extBut _ _ c1 (hs₇.extBut _ _ c1 (get?_push_of_some _ e))
   have hT₈ : IsPair h₈ h₅.objs.size v (.int x s.toks):=hs₈.extBut _ _ (ne_of_gt hzlt) (hs₇.extBut _ _ (ne_of_gt hzlt) (get?_push_size _ rfl))
   have hz8 : h₈.objs.size = h₅.objs.size + 1:=by rw [hs₈.1,hs₇.1,Heap.size_push]
   rw [hsz] at hz₈ hT₈ hz8
   refine wpAny_pure ?_
   show G (.done (.ret (.ref h₅.objs.size))) _
   rw [hsz]
   exact hQ h₈ hz₈ (h1₅.at fun o e => up _ o D.i1z e) (up _ _ D.i2z h2₅) hT₈ hz8 fun c o c1 c2 c3 c4 e => up c o c1 (hk₅ c o c1 c2 c3 c4 e)
 · refine wpAny_bind (wpAny_nextOf_list_end hh (h1.extBut hs₁.extBut D.i1z) (hl1.extBut hs₁.extBut D.l1z) hend fun h₂ e hs₂ he => ?_)
   obtain ⟨oe,hoe,hce⟩:=he
   have hz₂ : vB h₂ z TI TO .ellipsis false:=hs₂ _ _ D.i1z.symm hz₁
   have hez : e ≠ z:=fun x => by subst x; rw [hz₂] at hoe; cases hoe; simp at hce
   exact wpAny_setField_rec hz₂ (by simp) fun h₃ _ hs₃ => hE h₃ e (fun c o c1 _ c3 _ x => hs₃.extBut _ _ c1 (hs₂ _ _ c3 (hs₁.extBut _ _ c1 x))) ⟨oe,hs₃.extBut _ _ hez hoe,hce⟩
theorem Q9 {z TI TO i1 i2 l1 T : Addr} {oT : Obj} {b1 : Bool} {k : Nat} {xs : Array Value} {G : PySem.Fin → Shared → Prop} (D : ZipApart z TI TO i1 i2 l1 l1)
   (hz : vB s.heap z TI TO (rawInt T) b1) (hT : s.heap.get? T = some oT) (hTI : IsPair s.heap TI (.ref i1) (.ref i2)) (h1 : s.heap.IsListIter i1 l1 k) (hl1 : s.heap.IsList l1 xs)
   (hx : (∃ v left x,xs[k]? = some v ∧ IsRangeIter s.heap i2 x left 1 ∧ 0 < left ∧ ∀ h',vB h' z TI TO (rawInt T) true → h'.IsListIter i1 l1 (k + 1) → IsRangeIter h' i2 (x + 1) (left - 1) 1 → IsPair h' s.heap.objs.size v (.int x s.toks) → h'.objs.size = s.heap.objs.size + 1 →
    (∀ c o,c ≠ z → c ≠ TO → c ≠ i1 → c ≠ i2 → s.heap.get? c = some o → h'.get? c = some o) → G (.done (.ret (.ref s.heap.objs.size))) { s with heap:=h',toks:=s.toks + 1 }) ∨
    (A.handled = none ∧ xs[k]? = none ∧ ∀ h' e,(∀ c o,c ≠ z → c ≠ TO → c ≠ i1 → c ≠ i2 → s.heap.get? c = some o → h'.get? c = some o) → (∃ o,h'.get? e = some o ∧ o.cls = .type "StopIteration") → E (.ref e) { s with heap:=h' })) :
   wpAny (model prog w) A (Builtin.«zip.__next__» ⟨[.ref z],[]⟩) G E s:=by
 show wpAny _ _ (field (.ref z) 2 >>= _) _ _ _
 refine wpAny_bind (wpAny_field hz rfl (x:=.bool false) rfl ?_)
 show wpAny _ _ (field (.ref z) 3 >>= _) _ _ _
 refine wpAny_bind (wpAny_field hz rfl (x:=.ref TI) rfl ?_)
 refine wpAny_bind (wpAny_seqItems hTI rfl ?_)
 show wpAny _ _ (Builtin.SmallTypes.ownedTupleIsFree (.ref z) >>= _) _ _ _
 refine wpAny_bind (wpAny_mono (Kl hz hT) (fun b s' hb => ?_) fun _ _ e => e)
 obtain ⟨rfl,h₁,rfl,hz₁,hs₁⟩:=hb
 simp only [false_eq_true,if_false]
 rw [← Array.forIn_toList]
 show wpAny _ _ (forIn [Value.ref i1,Value.ref i2] _ _ >>= _) _ _ _
 simp only [forIn_cons,forIn_nil]
 refine wpAny_bind (wpAny_bind (wpAny_bind (wpAny_holding ?_)))
 show wpAny _ _ (Builtin.SmallTypes.nextOf (.ref i1) >>= _) _ _ _
 rcases hx with ⟨v,left,x,hx,h2,hy,hQ⟩ | ⟨hh,hend,hE⟩
 · refine wpAny_bind (wpAny_nextOf_list_item (h1.extBut hs₁.extBut D.i1z) (hl1.extBut hs₁.extBut D.l1z) hx fun h₂ h1₂ hs₂ => wpAny_pure ?_)
   refine wpAny_pure (wpAny_bind (wpAny_bind (wpAny_holding ?_)))
   show wpAny _ _ (Builtin.SmallTypes.nextOf (.ref i2) >>= _) _ _ _
   refine wpAny_bind (q8 (hs₂.extBut _ _ D.i12.symm (hs₁.extBut _ _ D.i2z h2)) hy fun h₃ h2₃ hs₃ => wpAny_pure ?_)
   refine wpAny_pure (wpAny_pure ?_)
   refine wpAny_bind (wpAny_newTuple (wpAny_pure ?_) (by show 2 ≤ sizeLine; rw [sizeLine_eq]; decide))
   have hsz : h₃.objs.size = s.heap.objs.size:=by rw [hs₃.1,hs₂.1,hs₁.1]
   have hz₃ : vB h₃ z TI TO (rawInt T) true:=hs₃.extBut _ _ D.i2z.symm (hs₂.extBut _ _ D.i1z.symm hz₁)
   have up : ∀ {c o},h₃.get? c = some o → (h₃.push { cls:=.type "tuple",data:=.seq #[v,.int x s.toks] }).get? c = some o:=fun e => get?_push_of_some _ e
   have h1₃ : h₃.IsListIter i1 l1 (k + 1):=h1₂.extBut hs₃.extBut D.i12
   have fin:=hQ (h₃.push { cls:=.type "tuple",data:=.seq #[v,.int x s.toks] }) (up hz₃) (h1₃.at fun o e => up e) (up h2₃) (by rw [← hsz]; exact get?_push_size _ rfl) (by rw [Heap.size_push,hsz])
    fun c o c1 c2 c3 c4 e => up (hs₃.extBut _ _ c4 (hs₂.extBut _ _ c3 (hs₁.extBut _ _ c1 e)))
   rw [← hsz] at fin
   exact fin
 · exact wpAny_bind (wpAny_nextOf_list_end hh (h1.extBut hs₁.extBut D.i1z) (hl1.extBut hs₁.extBut D.l1z) hend fun h₂ e hs₂ he => hE h₂ e (fun c o c1 _ c3 _ x => hs₂ _ _ c3 (hs₁.extBut _ _ c1 x)) he)
theorem X7 : typeLookup (.type "zip") (ofString "__len__") = pure none:=by rw [typeLookup_type,builtinLookup_eq_fast]; kernel_rfl
theorem XQ : typeLookup (.type "zip") (ofString "__length_hint__") = pure none:=by rw [typeLookup_type,builtinLookup_eq_fast]; kernel_rfl
structure WZ (h : Heap) (z TI TO i1 i2 l1 : Addr) (xs : Array Value) (lo i : Nat) : Prop where
 ti : IsPair h TI (.ref i1) (.ref i2)
 li : h.IsListIter i1 l1 i
 ri : IsRangeIter h i2 (i : Int) (5 - (i : Int)) 1
 ls : h.IsList l1 xs
 zp : (i = 0 ∧ vB h z TI TO .none false ∧ ∃ a b,IsPair h TO a b) ∨ ∃ (T : Addr) (b : Bool) (oT : Obj),vB h z TI TO (rawInt T) b ∧ h.get? T = some oT ∧ lo ≤ T
structure ZLt (z TI TO i1 i2 l1 lo : Nat) : Prop where
 z : z < lo
 ti : TI < lo
 to : TO < lo
 i1 : i1 < lo
 i2 : i2 < lo
 l1 : l1 < lo
theorem WZ.keep {h h' : Heap} {z TI TO i1 i2 l1 S : Addr} {xs : Array Value} {lo i : Nat} (x : WZ h z TI TO i1 i2 l1 xs lo i) (L : ZLt z TI TO i1 i2 l1 S) (hS : S < lo) (hk : ∀ b o,b ≠ S → h.get? b = some o → h'.get? b = some o) : WZ h' z TI TO i1 i2 l1 xs lo i:=by
 refine ⟨hk _ _ (ne_of_lt L.ti) x.ti,x.li.at fun o e => hk _ o (ne_of_lt L.i1) e,hk _ _ (ne_of_lt L.i2) x.ri,x.ls.at fun o e => hk _ o (ne_of_lt L.l1) e, ?_⟩
 rcases x.zp with ⟨e,h1,a,b,h2⟩ | ⟨T,b,oT,h1,h2,h3⟩
 · exact .inl ⟨e,hk _ _ (ne_of_lt L.z) h1,a,b,hk _ _ (ne_of_lt L.to) h2⟩
 · exact .inr ⟨T,b,oT,hk _ _ (ne_of_lt L.z) h1,hk _ _ (ne_of_gt (lt_of_lt_of_le hS h3)) h2,h3⟩
section
variable {z TI TO i1 i2 l1 : Addr} {xs : Array Value} {lo i : Nat} {v : Value}
theorem Q1 {Q : Option Value → Shared → Prop} (D : ZipApart z TI TO i1 i2 l1 l1) (x : WZ s.heap z TI TO i1 i2 l1 xs lo i) (L : ZLt z TI TO i1 i2 l1 lo) (hlo : lo ≤ s.heap.objs.size) (hx : xs[i]? = some v) (hi : i < 5)
   (hQ : ∀ h',WZ h' z TI TO i1 i2 l1 xs lo (i + 1) → IsPair h' s.heap.objs.size v (.int i s.toks) → h'.objs.size = s.heap.objs.size + 1 → (∀ c o,c ≠ z → c ≠ TO → c ≠ i1 → c ≠ i2 → s.heap.get? c = some o → h'.get? c = some o) → Q (some (.ref s.heap.objs.size)) { s with heap:=h',toks:=s.toks + 1 }) :
   wpAny (model prog w) A (pyNext (.ref z)) Q E s:=by
 have e5 : (0 : Int) < 5 - (i : Int):=by omega
 have ei : ((i + 1 : Nat) : Int) = (i : Int) + 1:=by omega
 have ef : (5 : Int) - ((i + 1 : Nat) : Int) = 5 - (i : Int) - 1:=by omega
 have nx : ∀ {f0 b} (h' : Heap),vB h' z TI TO f0 b → h'.IsListIter i1 l1 (i + 1) → IsRangeIter h' i2 ((i : Int) + 1) (5 - (i : Int) - 1) 1 → (∀ c o,c ≠ z → c ≠ TO → c ≠ i1 → c ≠ i2 → s.heap.get? c = some o → h'.get? c = some o) → (∃ (T : Addr) (oT : Obj),f0 = rawInt T ∧ h'.get? T = some oT ∧ lo ≤ T) → WZ h' z TI TO i1 i2 l1 xs lo (i + 1):=by
   rintro f0 b h' a1 a2 a3 a6 ⟨T,oT,rfl,b1,b2⟩
   exact ⟨a6 _ _ D.TIz D.TITO D.TIi1 D.TIi2 x.ti,a2,by rw [ei,show (5 : Int) - ((i : Int) + 1) = 5 - (i : Int) - 1 by omega]; exact a3,x.ls.at fun o e => a6 _ o D.l1z D.l1TO D.l1i1 D.l1i2 e,.inr ⟨T,b,oT,a1,b1,b2⟩⟩
 unfold pyNext
 rcases x.zp with ⟨e,h1,a,b,h2⟩ | ⟨T,b,oT,h1,h2,h3⟩
 · have hT : s.TypeIs (.ref z) "zip" := ⟨_,h1,rfl⟩
   refine wpAny_bind (wpAny_attempt (wpAny_callSpecial?_slot (name:=ofString "__next__") hT F.slot_zip_next
    (wpAny_call_entry F.slot_zip_next hT F.entry_zip_next (Jg D h1 x.ti h2 x.li x.ls (.inl ⟨_,_,_,hx,x.ri,e5,fun h' a1 a2 a3 a4 a5 a6 => ⟨_,rfl,wpAny_pure (hQ h' ?_ a4 a5 a6)⟩⟩)) (F.args_zip_next_1 _))))
   exact nx h' a1 a2 a3 a6 ⟨_,_,rfl,a4,hlo⟩
 · have hT : s.TypeIs (.ref z) "zip" := ⟨_,h1,rfl⟩
   refine wpAny_bind (wpAny_attempt (wpAny_callSpecial?_slot (name:=ofString "__next__") hT F.slot_zip_next
    (wpAny_call_entry F.slot_zip_next hT F.entry_zip_next (Q9 D h1 h2 x.ti x.li x.ls (.inl ⟨_,_,_,hx,x.ri,e5,fun h' a1 a2 a3 a4 a5 a6 => ⟨_,rfl,wpAny_pure (hQ h' ?_ a4 a5 a6)⟩⟩)) (F.args_zip_next_1 _))))
   exact nx h' a1 a2 a3 a6 ⟨_,_,rfl,a6 T oT (ne_of_gt (lt_of_lt_of_le L.z h3)) (ne_of_gt (lt_of_lt_of_le L.to h3)) (ne_of_gt (lt_of_lt_of_le L.i1 h3)) (ne_of_gt (lt_of_lt_of_le L.i2 h3)) h2,h3⟩
theorem Qf {Q : Option Value → Shared → Prop} (hh : A.handled = none) (D : ZipApart z TI TO i1 i2 l1 l1) (x : WZ s.heap z TI TO i1 i2 l1 xs lo i) (hx : xs[i]? = none)
   (hQ : ∀ h',(∀ c o,c ≠ z → c ≠ TO → c ≠ i1 → c ≠ i2 → s.heap.get? c = some o → h'.get? c = some o) → Q none { s with heap:=h' }) : wpAny (model prog w) A (pyNext (.ref z)) Q E s:=by
 have stop : ∀ h' e,(∀ c o,c ≠ z → c ≠ TO → c ≠ i1 → c ≠ i2 → s.heap.get? c = some o → h'.get? c = some o) → (∃ o,h'.get? e = some o ∧ o.cls = .type "StopIteration") → wpAny (model prog w) A (do if ← isInstance (.ref e) (.type "StopIteration") then pure none else throw (.ref e)) Q E { s with heap:=h' }:=by
   rintro h' e hk ⟨o,ho,hc⟩
   refine wpAny_bind (wpAny_isInstance (T := "StopIteration") (b:=true) ⟨o,ho,hc⟩ isSubtype_stop ?_)
   exact wpAny_pure (hQ _ hk)
 unfold pyNext
 rcases x.zp with ⟨e,h1,a,b,h2⟩ | ⟨T,b,oT,h1,h2,h3⟩
 · have hT : s.TypeIs (.ref z) "zip" := ⟨_,h1,rfl⟩
   exact wpAny_bind (wpAny_attempt (wpAny_callSpecial?_slot (name:=ofString "__next__") hT F.slot_zip_next
    (wpAny_call_entry F.slot_zip_next hT F.entry_zip_next (Jg D h1 x.ti h2 x.li x.ls (.inr ⟨hh,hx,fun h' e hk he => stop h' e hk he⟩)) (F.args_zip_next_1 _))))
 · have hT : s.TypeIs (.ref z) "zip" := ⟨_,h1,rfl⟩
   exact wpAny_bind (wpAny_attempt (wpAny_callSpecial?_slot (name:=ofString "__next__") hT F.slot_zip_next
    (wpAny_call_entry F.slot_zip_next hT F.entry_zip_next (Q9 D h1 h2 x.ti x.li x.ls (.inr ⟨hh,hx,fun h' e hk he => stop h' e hk he⟩)) (F.args_zip_next_1 _))))
noncomputable def Prs (h : Heap) (K : Nat → Int) (lo : Nat) (acc : Array Value) : Prop:=∀ j < acc.size,∃ T,acc[j]? = some (.ref T) ∧ lo ≤ T ∧ ka h T (K j) (j : Int)
theorem JQ {S : Addr} {K : Nat → Int} {R : Result → Shared → Prop} (hh : A.handled = none) (D : ZipApart z TI TO i1 i2 l1 l1) (L : ZLt z TI TO i1 i2 l1 S) (hS0 : S < lo) (hn : xs.size ≤ 5) (hK : ∀ j < xs.size,∃ t,xs[j]? = some (.int (K j) t)) (res : Value) {h₁ : Heap}
  (hR : ∀ h' tk acc c,(∀ b o,b ≠ S → b ≠ z → b ≠ TO → b ≠ i1 → b ≠ i2 → h₁.get? b = some o → h'.get? b = some o) → h'.get? S = some { cls:=.type "list",dict:=none,data:=.seq acc c,slots:=#[] } → acc.size = xs.size → Prs h' K lo acc →
    R (.ok (.ret res)) { s with heap:=h',toks:=tk }) :
  ∀ (k i : Nat) (h : Heap) (tk c : Nat) (acc : Array Value),xs.size - i = k → i ≤ xs.size → WZ h z TI TO i1 i2 l1 xs lo i → lo ≤ h.objs.size → (∀ b o,b ≠ S → b ≠ z → b ≠ TO → b ≠ i1 → b ≠ i2 → h₁.get? b = some o → h.get? b = some o) →
    h.get? S = some { cls:=.type "list",dict:=none,data:=.seq acc c,slots:=#[] } → acc.size = i → Prs h K lo acc →
    codeAny (model prog w) A (.builtin "list.extend.loop" ⟨[.ref S,.ref z,res],[]⟩) R { s with heap:=h,toks:=tk }:=by
 have L' : ZLt z TI TO i1 i2 l1 lo:=⟨lt_trans L.z hS0,lt_trans L.ti hS0,lt_trans L.to hS0,lt_trans L.i1 hS0,lt_trans L.i2 hS0,lt_trans L.l1 hS0⟩
 have off : ∀ {T : Nat},lo ≤ T → T ≠ z ∧ T ≠ TO ∧ T ≠ i1 ∧ T ≠ i2 ∧ T ≠ S:=fun hT =>
  ⟨ne_of_gt (lt_of_lt_of_le L'.z hT),ne_of_gt (lt_of_lt_of_le L'.to hT),ne_of_gt (lt_of_lt_of_le L'.i1 hT),ne_of_gt (lt_of_lt_of_le L'.i2 hT),ne_of_gt (lt_of_lt_of_le hS0 hT)⟩
 have hSz : S ≠ z:=ne_of_gt L.z
 have hSt : S ≠ TO:=ne_of_gt L.to
 have hS1 : S ≠ i1:=ne_of_gt L.i1
 have hS2 : S ≠ i2:=ne_of_gt L.i2
 intro k
 induction k with
 | zero =>
  intro i h tk c acc hk hi hst hlo hkeep hS hal hP
  refine codeAny_builtin PySem.F.entry_extend_loop ?_
  rw [Around.under_plainId PySem.F.plain_extend_loop _]
  show wpAny _ A.in1 (pyNext (.ref z) >>= _) _ _ _
  refine wpAny_bind (Qf (s:={ s with heap:=h,toks:=tk }) (A:=A.in1) hh D hst (Array.getElem?_eq_none (Nat.le_of_sub_eq_zero hk)) fun h' hk' => ?_)
  refine wpAny_pure (hR h' tk acc c (fun b o n0 n1 n2 n3 n4 e => hk' b o n1 n2 n3 n4 (hkeep b o n0 n1 n2 n3 n4 e)) (hk' S _ hSz hSt hS1 hS2 hS) (hal.trans (le_antisymm hi (Nat.le_of_sub_eq_zero hk))) fun j hj => ?_)
  obtain ⟨T,e1,e2,e3⟩:=hP j hj
  obtain ⟨o1,o2,o3,o4,_⟩:=off e2
  exact ⟨T,e1,e2,e3.at fun o e => hk' T o o1 o2 o3 o4 e⟩
 | succ k ih =>
  intro i h tk c acc hk hi hst hlo hkeep hS hal hP
  have hlt : i < xs.size:=Nat.lt_of_sub_eq_succ hk
  obtain ⟨t,hx⟩:=hK i hlt
  refine codeAny_builtin PySem.F.entry_extend_loop ?_
  rw [Around.under_plainId PySem.F.plain_extend_loop _]
  show wpAny _ A.in1 (pyNext (.ref z) >>= _) _ _ _
  refine wpAny_bind (Q1 (s:={ s with heap:=h,toks:=tk }) D hst L' hlo hx (lt_of_lt_of_le hlt hn) fun h' hst' ht hz hkp => ?_)
  dsimp only at ht hz hkp ⊢
  have hS':=hkp S _ hSz hSt hS1 hS2 hS
  have up : ∀ b o,b ≠ S → h'.get? b = some o → (h'.update S (Obj.mapSeq (·.push (Value.ref h.objs.size)))).get? b = some o:=fun b o hb e => (Heap.get?_update_other _ _ (Ne.symm hb)).trans e
  show wpAny _ A.in1 (updateSeq S (·.push (Value.ref h.objs.size)) >>= _) _ _ _
  refine wpAny_bind ?_
  refine wpAny_updateSeq hS' rfl (wpAny_pure ⟨plainId_quiet PySem.F.plain_extend_loop _,ih (i + 1) _ _ _ (acc.push (Value.ref h.objs.size)) (congrArg Nat.pred hk) hlt (hst'.keep L hS0 up) ?_ (fun b o n0 n1 n2 n3 n4 e => up b o n0 (hkp b o n1 n2 n3 n4 (hkeep b o n0 n1 n2 n3 n4 e)))
    (get?_update_self _ hS' rfl) (by rw [size_push,hal]) fun j hj => ?_⟩) (by rw [hal,sizeLine_eq]; omega) (by show (acc.push (Value.ref h.objs.size)).size ≤ sizeLine + 1; rw [size_push,hal,sizeLine_eq]; omega)
  · rw [Heap.size_update,hz]; exact Nat.le_succ_of_le hlo
  · rw [size_push] at hj
    rcases Nat.lt_or_ge j acc.size with hj' | hj'
    · obtain ⟨T,e1,e2,e3⟩:=hP j hj'
      obtain ⟨o1,o2,o3,o4,o5⟩:=off e2
      exact ⟨T,by rw [Array.getElem?_push,if_neg (ne_of_lt hj')]; exact e1,e2,e3.at fun o e => up T o o5 (hkp T o o1 o2 o3 o4 e)⟩
    · have hji : j = i:=(le_antisymm (Nat.le_of_lt_succ hj) hj').trans hal
      subst hji
      refine ⟨h.objs.size,by rw [Array.getElem?_push,if_pos hal.symm],hlo, ?_⟩
      exact ⟨t,tk,0,up _ _ (off hlo).2.2.2.2 ht⟩
end
noncomputable abbrev zq1 (h : Heap) (l1 : Addr) : Heap:=h.push { cls:=.type "list_iterator",data:=.fields #[.ref l1,.int 0 0] }
noncomputable abbrev zq2 (h : Heap) (l1 : Addr) : Heap:=(zq1 h l1).push { cls:=.type "range_iterator",data:=.fields #[rawInt 0,rawInt (Builtin.Range.rangeSize 0 5 1),rawInt 1] }
noncomputable abbrev zq3 (h : Heap) (l1 : Addr) : Heap:=(zq2 h l1).push { cls:=.type "tuple",data:=.seq #[.ref h.objs.size,.ref (zq1 h l1).objs.size] }
noncomputable abbrev zq4 (h : Heap) (l1 : Addr) : Heap:=(zq3 h l1).push { cls:=.type "tuple",data:=.seq #[.none,.none] }
noncomputable abbrev K6 (h : Heap) (l1 : Addr) : Heap:=(zq4 h l1).push { cls:=.type "zip",data:=.fields #[.none,.bool false,.bool false,.ref (zq2 h l1).objs.size,.ref (zq3 h l1).objs.size] }
theorem Yb (l1 r : Addr) (xs : Array Value) (t u v : Tok) :
  Meets (Builtin.«zip.__new__» ⟨[.type "zip",.ref l1,.ref r],[]⟩) (fun _ R s => s.heap.IsList l1 xs ∧ IsRange s.heap r 0 5 1 t u v ∧
   R (.ok (.ret (.ref (zq4 s.heap l1).objs.size))) { s with heap:=K6 s.heap l1 }) :=
 .of_wp fun prog w A R s h => by
  obtain ⟨hp,g,d,tk,os⟩:=s; obtain ⟨hl1,hr,h⟩:=h
  have hsub:=sub_zip
  have hL1 : Heap.IsList (Shared.heap ⟨hp,g,d,tk,os⟩) l1 xs:=hl1
  have hR2 : IsRange (Shared.heap ⟨hp.push { cls:=.type "list_iterator",data:=.fields #[.ref l1,.int 0 0] },g,d,tk,os⟩) r 0 5 1 t u v:=get?_push_of_some _ hr
  have hsm : Builtin.Range.small 0 5 1 = true:=by decide
  wp_walk using wpAny_pyIter_list hL1,wpAny_pyIter_range hR2 hsm
  exact ⟨_,rfl,h⟩
theorem XR {n l1 : Nat} (h1 : l1 < n) : ZipApart (n + 4) (n + 2) (n + 3) n (n + 1) l1 l1:=by
 constructor <;> first | exact (by omega : _ ≠ _) | (intro e; have e : (_ : Nat) = _:=e; omega)
theorem Xg {l1 r : Addr} {xs : Array Value} {t u v : Tok} {lo : Nat} {Q : Value → Shared → Prop} (hl1 : s.heap.IsList l1 xs) (hr : IsRange s.heap r 0 5 1 t u v)
  (h : ∀ h',WZ h' (s.heap.objs.size + 4) (s.heap.objs.size + 2) (s.heap.objs.size + 3) s.heap.objs.size (s.heap.objs.size + 1) l1 xs lo 0 → h'.objs.size = s.heap.objs.size + 5 →
   (∀ c o,s.heap.get? c = some o → h'.get? c = some o) → Q (.ref (s.heap.objs.size + 4)) { s with heap:=h' }) :
  wpAny (model prog w) A (call (.type "zip") [.ref l1,.ref r]) Q E s:=by
 refine callType_new F.called_zip (by decide) (F.typeCall_zip_2 _ _) (F.newCall_zip_2 _ _) (fun obj => F.args_object_init_3 obj _ _) F.entry_zip_new
  (Yb l1 r xs t u v) ⟨hl1,hr, ?_⟩
 have z1 : (zq1 s.heap l1).objs.size = s.heap.objs.size + 1:=Heap.size_push ..
 have z2 : (zq2 s.heap l1).objs.size = s.heap.objs.size + 2:=by rw [Heap.size_push,z1]
 have z3 : (zq3 s.heap l1).objs.size = s.heap.objs.size + 3:=by rw [Heap.size_push,z2]
 have z4 : (zq4 s.heap l1).objs.size = s.heap.objs.size + 4:=by rw [Heap.size_push,z3]
 have z5 : (K6 s.heap l1).objs.size = s.heap.objs.size + 5:=by rw [Heap.size_push,z4]
 have up : ∀ {h : Heap} {o o' : Obj} {c : Addr},h.get? c = some o → (h.push o').get? c = some o:=fun e => get?_push_of_some _ e
 have g5 : (K6 s.heap l1).get? (zq4 s.heap l1).objs.size = some _:=get?_push_size _ rfl
 have g4 : (K6 s.heap l1).get? (zq3 s.heap l1).objs.size = some _:=up (get?_push_size _ rfl)
 have g3 : (K6 s.heap l1).get? (zq2 s.heap l1).objs.size = some _:=up (up (get?_push_size _ rfl))
 have g2 : (K6 s.heap l1).get? (zq1 s.heap l1).objs.size = some _:=up (up (up (get?_push_size _ rfl)))
 have g1 : (K6 s.heap l1).get? s.heap.objs.size = some _:=up (up (up (up (get?_push_size _ rfl))))
 have keep : ∀ c o,s.heap.get? c = some o → (K6 s.heap l1).get? c = some o:=fun c o x => up (up (up (up (up x))))
 have r5 : Builtin.Range.rangeSize 0 5 1 = 5:=by decide
 show _ ∧ _
 rw [z2,z3,z4] at g5
 rw [z1,z2] at g3
 rw [z3] at g4
 rw [z1,r5] at g2
 rw [z4]
 exact ⟨⟨_,g5,rfl⟩,h _ ⟨g3,⟨_,g1,rfl,rfl⟩,g2,hl1.at fun o e => keep _ o e,.inl ⟨rfl,g5,_,_,g4⟩⟩ z5 keep⟩
theorem XE {z TI TO i1 i2 l1 : Addr} {xs : Array Value} {K : Nat → Int} {Q : List Value → Shared → Prop} (hh : A.handled = none) (D : ZipApart z TI TO i1 i2 l1 l1) (L : ZLt z TI TO i1 i2 l1 s.heap.objs.size) (x : WZ s.heap z TI TO i1 i2 l1 xs (s.heap.objs.size + 1) 0)
  (hn : xs.size ≤ 5) (hK : ∀ j < xs.size,∃ t,xs[j]? = some (.int (K j) t))
  (hQ : ∀ h' tk acc,(∀ b o,b ≠ z → b ≠ TO → b ≠ i1 → b ≠ i2 → s.heap.get? b = some o → h'.get? b = some o) → acc.size = xs.size → Prs h' K (s.heap.objs.size + 1) acc → Q acc.toList { s with heap:=h',toks:=tk }) :
  wpAny (model prog w) A (collect (.ref z)) Q E s:=by
 have hz0 : vB s.heap z TI TO .none false:=by
  rcases x.zp with ⟨_,h1,_⟩ | ⟨T,b,oT,h1,h2,h3⟩
  · exact h1
  · exact absurd (lt_trans (lt_size h2) (Nat.lt_of_succ_le h3)) (lt_irrefl _)
 unfold collect
 refine wpAny_bind (wpAny_runValue (codeAny_builtin F.entry_proto_collect ?_))
 rw [Around.under_plainId F.plain_proto_collect _]
 show wpAny _ A.in1 (newList [] >>= fun l => again (.builtin "list.__iadd__" ⟨[l,.ref z],[]⟩)) _ _ s
 refine wpAny_bind (wpAny_newObj_type ?_)
 refine wpAny_pure ⟨plainId_quiet F.plain_list_iadd _,codeAny_builtin F.entry_list_iadd ?_⟩
 rw [Around.under_plainId F.plain_list_iadd _]
 show wpAny _ A.in1 (Builtin.List.listExtendWith (.ref s.heap.objs.size) (.ref z) (.ref s.heap.objs.size)) _ _ _
 have up : ∀ {c o},s.heap.get? c = some o → (s.heap.push { cls:=.type "list",data:=.seq ([] : List Value).toArray }).get? c = some o:=fun e => get?_push_of_some _ e
 have hS : (s.heap.push { cls:=.type "list",data:=.seq ([] : List Value).toArray }).get? s.heap.objs.size = some { cls:=.type "list",data:=.seq #[] 0 }:=get?_push_size _ rfl
 have x1 : WZ (s.heap.push { cls:=.type "list",data:=.seq ([] : List Value).toArray }) z TI TO i1 i2 l1 xs (s.heap.objs.size + 1) 0:=by
  refine ⟨up x.ti,x.li.at fun o e => up e,up x.ri,x.ls.at fun o e => up e, ?_⟩
  rcases x.zp with ⟨e,h1,a,b,h2⟩ | ⟨T,b,oT,h1,h2,h3⟩
  · exact .inl ⟨e,up h1,a,b,up h2⟩
  · exact .inr ⟨T,b,oT,up h1,up h2,h3⟩
 have hz1 : (s.heap.push { cls:=.type "list",data:=.seq ([] : List Value).toArray }).objs.size = s.heap.objs.size + 1:=Heap.size_push ..
 have hT : Shared.TypeIs { s with heap:=s.heap.push { cls:=.type "list",data:=.seq ([] : List Value).toArray } } (.ref z) "zip" := ⟨_,up hz0,rfl⟩
 have hSz : s.heap.objs.size ≠ z:=ne_of_gt L.z
 have key : ∀ c₁ (h₁ : Heap),WZ h₁ z TI TO i1 i2 l1 xs (s.heap.objs.size + 1) 0 → h₁.objs.size = s.heap.objs.size + 1 → (∀ b o,b ≠ s.heap.objs.size → s.heap.get? b = some o → h₁.get? b = some o) → h₁.get? s.heap.objs.size = some { cls:=.type "list",data:=.seq #[] c₁ } →
    codeAny (model prog w) A (.builtin "list.extend.loop" ⟨[.ref s.heap.objs.size,.ref z,.ref s.heap.objs.size],[]⟩) (fun r s' => match r with
     | .ok (.ret v) => wpAny (model prog w) A (match v with
      | .ref a => do match (← load a).data with
       | .seq xs _ => pure xs.toList
       | _ => unsupported "internal:collect"
      | _ => unsupported "internal:collect") Q E s'
     | .ok _ => False
     | .error e => E e s') { s with heap:=h₁,toks:=s.toks }:=by
  intro c₁ h₁ y1 y2 y3 y4
  refine JQ (h₁:=h₁) hh D L (lt_succ_self _) hn hK (.ref s.heap.objs.size) (fun h' tk acc c k1 k2 k3 k4 => ?_) _ 0 h₁ s.toks c₁ #[] rfl (zero_le _) y1 (le_of_eq y2.symm) (fun b o _ _ _ _ _ e => e) y4 rfl (fun j hj => absurd hj (Nat.not_lt_zero _))
  show wpAny _ A (load s.heap.objs.size >>= _) _ _ _
  refine wpAny_bind (wpAny_load k2 ?_)
  refine wpAny_pure (hQ h' tk acc (fun b o n1 n2 n3 n4 e => ?_) k3 k4)
  have hb : b ≠ s.heap.objs.size:=ne_of_lt (lt_size e)
  exact k1 b o hb n1 n2 n3 n4 (y3 b o hb e)
 unfold Builtin.List.listExtendWith
 refine wpAny_bind (wpAny_typeOf hT ?_)
 have h1 : Builtin.List.listSameRef (.ref s.heap.objs.size) (.ref z) = false:=by simp [Builtin.List.listSameRef,hSz]
 have h2 : (Value.type "zip" == Value.type "list") = false:=by decide
 have h3 : (Value.type "zip" == Value.type "tuple") = false:=by decide
 simp only [h1,h2,h3,Bool.or_false,false_eq_true,if_false]
 refine wpAny_bind (wpAny_pyIter_zip (up hz0) ?_)
 refine wpAny_bind (wpAny_holding ?_)
 unfold Builtin.List.listLengthHint
 refine wpAny_bind (wpAny_specialOf hT X7 ?_)
 show wpAny _ A.in1 (specialOf (Value.ref z) (ofString "__length_hint__") >>= _) _ _ _
 refine wpAny_bind (wpAny_specialOf hT XQ ?_)
 refine wpAny_pure ?_
 show wpAny _ A.in1 (rule "list.extend.makes-room" >>= fun _ => Builtin.List.listTouch (.ref s.heap.objs.size) >>= fun _ =>
  again (.builtin "list.extend.loop" ⟨[.ref s.heap.objs.size,.ref z,.ref s.heap.objs.size],[]⟩)) _ _ _
 refine wpAny_bind (wpAny_rule ?_)
 refine wpAny_bind ?_
 show wpAny _ A.in1 (updateSeq s.heap.objs.size (·.push .none) >>= fun _ => updateSeq s.heap.objs.size (·.pop)) _ _ _
 refine wpAny_bind (wpAny_updateSeq hS rfl ?_)
 have hS₂:=get?_update_self (Obj.mapSeq (·.push Value.none)) hS rfl
 refine wpAny_updateSeq (hz:=by seq_fits) hS₂ rfl ?_
 have hS₃:=get?_update_self (Obj.mapSeq (·.pop)) hS₂ rfl
 have oth : ∀ b o,b ≠ s.heap.objs.size → (s.heap.push { cls:=.type "list",data:=.seq ([] : List Value).toArray }).get? b = some o → (((s.heap.push { cls:=.type "list",data:=.seq ([] : List Value).toArray }).update s.heap.objs.size (Obj.mapSeq (·.push Value.none))).update s.heap.objs.size (Obj.mapSeq (·.pop))).get? b = some o :=
  fun b o hb e => (Heap.get?_update_other _ _ (Ne.symm hb)).trans ((Heap.get?_update_other _ _ (Ne.symm hb)).trans e)
 refine wpAny_pure ⟨plainId_quiet F.plain_extend_loop _,key _ _ (x1.keep L (lt_succ_self _) oth) ?_ (fun b o hb e => oth b o hb (up e)) hS₃⟩
 rw [Heap.size_update,Heap.size_update,hz1]
noncomputable def WA (K : Nat → Int) (n : Nat) (is : List Nat) : Prop :=
 (n < 2 ∧ is = List.range n) ∨ (2 ≤ n ∧ ∃ p,xj n (fun i j => XG (K i) (i : Int) (K j) (j : Int)) (kas_sort n) = some p ∧ is = p.toList ∧ ∀ i ∈ is,i < n)
noncomputable def prD (K : Nat → Int) (i : Nat) : D:=.tup [.int (K i),.int (i : Int)]
theorem Xy {z TI TO i1 i2 l1 : Addr} {xs : Array Value} {K : Nat → Int} {is : List Nat} {Q : Value → Shared → Prop} (hh : A.handled = none) (D : ZipApart z TI TO i1 i2 l1 l1) (L : ZLt z TI TO i1 i2 l1 s.heap.objs.size) (x : WZ s.heap z TI TO i1 i2 l1 xs (s.heap.objs.size + 1) 0)
  (hn : xs.size ≤ 5) (hK : ∀ j < xs.size,∃ t,xs[j]? = some (.int (K j) t)) (his : WA K xs.size is) (hold : ∀ a,M a → a ≠ z ∧ a ≠ TO ∧ a ≠ i1 ∧ a ≠ i2 ∧ ∃ o,s.heap.get? a = some o)
  (hQ : ∀ v h' tk,(∀ b o,b ≠ z → b ≠ TO → b ≠ i1 → b ≠ i2 → s.heap.get? b = some o → h'.get? b = some o) → Rp prog w h' M v (.list (is.map (prD K))) → Q v { s with heap:=h',toks:=tk }) :
  wpAny (model prog w) A (call (.builtin "sorted") [.ref z]) Q E s:=by
 refine Calls.call_function_entry kind_sorted plain_sorted entry_sorted (args_sorted1 _) ?_
 unfold Builtin.«sorted»
 refine wpAny_bind (m:=checkCount "sorted" 1 1 _) (wpAny_pure ?_)
 refine wpAny_bind (XE (K:=K) hh D L x hn hK fun h₁ tk₁ acc k₁ ha hP => ?_)
 refine wpAny_bind (wpAny_newList ?_ (by rw [length_toList,ha,sizeLine_eq]; omega))
 dsimp only
 have hvl : acc.toList.length = xs.size:=by rw [length_toList]; exact ha
 have hL : (h₁.push (seqObj "list" acc.toList.toArray 0)).get? h₁.objs.size = some (seqObj "list" acc.toList.toArray 0):=get?_push_size _ rfl
 have up : ∀ {c o},h₁.get? c = some o → (h₁.push (seqObj "list" acc.toList.toArray 0)).get? c = some o:=fun e => get?_push_of_some _ e
 have hv : ∀ k < acc.toList.length,∃ y,acc.toList[k]? = some (.ref y) ∧ y ≠ h₁.objs.size ∧ ¬ M y ∧ ka (h₁.push (seqObj "list" acc.toList.toArray 0)) y (K k) (k : Int):=fun k hk => by
  obtain ⟨T,e1,e2,t,u,n,e3⟩:=hP k (by rw [← length_toList]; exact hk)
  exact ⟨T,by rw [getElem?_toList]; exact e1,ne_of_lt (lt_size e3),fun m => by
    obtain ⟨_,_,_,_,o,e⟩:=hold T m
    exact absurd (lt_trans (lt_size e) (Nat.lt_of_succ_le e2)) (lt_irrefl _),t,u,n,up e3⟩
 have hnM : ∀ {o},h₁.get? h₁.objs.size = some o → False:=fun e => absurd (lt_size e) (lt_irrefl _)
 have hno : ¬ M h₁.objs.size:=fun m => let ⟨n1,n2,n3,n4,o,e⟩:=hold _ m; hnM (k₁ _ o n1 n2 n3 n4 e)
 have rp : ∀ h' : Heap,(∀ b o,b ≠ h₁.objs.size → (h₁.push (seqObj "list" acc.toList.toArray 0)).get? b = some o → h'.get? b = some o) → ∀ l : List Nat,(∀ i ∈ l,i < acc.toList.length) → zH prog w h' M (l.map fun i => acc.toList.getD i .none) (l.map (prD K)):=by
  intro h' hk l
  induction l with
  | nil => intro _; exact .nil
  | cons i l ih =>
    intro hl
    refine .cons ?_ (ih fun j hj => hl j (.tail _ hj))
    obtain ⟨y,e1,e2,e3,t,u,n,e4⟩:=hv i (hl i (.head _))
    show Rp prog w h' M (acc.toList.getD i .none) _
    rw [getD_eq_getElem?_getD,e1]
    exact .tup (vs:=[.int (K i) t,.int (i : Int) u]) ⟨n,hk y _ e2 e4⟩ e3 (.cons (.int _ _) (.cons (.int _ _) .nil))
 have hkeep : ∀ h' : Heap,(∀ b o,b ≠ h₁.objs.size → (h₁.push (seqObj "list" acc.toList.toArray 0)).get? b = some o → h'.get? b = some o) → ∀ b o,b ≠ z → b ≠ TO → b ≠ i1 → b ≠ i2 → s.heap.get? b = some o → h'.get? b = some o:=fun h' hk b o n1 n2 n3 n4 e => by
  have e1:=k₁ b o n1 n2 n3 n4 e
  exact hk b o (ne_of_lt (lt_size e1)) (up e1)
 refine wpAny_bind (wpAny_holding (wpAny_call_entry slot_list_sort ⟨_,hL,rfl⟩ entry_list_sort ?body (args_list_sort _)))
 case body =>
  rcases his with ⟨h2,rfl⟩ | ⟨h2,p,hp,rfl,hb⟩
  · refine JB (s:={ s with heap:=h₁.push (seqObj "list" acc.toList.toArray 0),toks:=tk₁ }) hL (by rw [hvl]; exact h2) fun h' c hk hc => ⟨_,rfl, ?_⟩
    refine wpAny_pure ⟨_,rfl,hQ _ h' tk₁ (hkeep h' hk) (.list (vs:=acc.toList) ⟨c,hc⟩ hno ?_)⟩
    have:=rp h' hk (List.range xs.size) (fun i hi => by rw [hvl]; exact mem_range.mp hi)
    rw [← hvl] at this ⊢
    have e : (List.range acc.toList.length).map (fun i => acc.toList.getD i .none) = acc.toList:=by
      refine List.ext_getElem (by simp) fun i h1 h2 => ?_
      rw [List.getElem_map,List.getElem_range,getD_eq_getElem?_getD,getElem?_eq_getElem h2]
      rfl
    rw [e] at this
    exact this
  · refine Xv (s:={ s with heap:=h₁.push (seqObj "list" acc.toList.toArray 0),toks:=tk₁ }) (K:=K) (I:=fun k => (k : Int)) (p:=p) hL (by rw [hvl]; exact h2) (by rw [hvl]; omega) (fun k hk => ?_) (by rw [hvl]; exact hp) fun h' c hps hk hc => ⟨_,rfl, ?_⟩
    · obtain ⟨y,e1,e2,e3,e4⟩:=hv k hk
      exact ⟨y,e1,e2,e4⟩
    · exact wpAny_pure ⟨_,rfl,hQ _ h' tk₁ (hkeep h' hk) (.list (vs:=p.toList.map fun i => acc.toList.getD i .none) ⟨c,hc⟩ hno (rp h' hk p.toList fun i hi => by rw [hvl]; exact hb i hi))⟩
theorem Ev.call1H {fx : Str} {fp pos : Pos} {f : Value} {e : Expr} {Z : Heap → Heap → Value → Prop} {R' : Heap → Value → Prop} (S : En prog w B names env h M ρ μ) (hf : Ev prog w A h (.Name fx fp) env (fun _ u => u = f)) (K : ji B f)
  (he : ∀ (s : Shared) (E : Value → Shared → Prop) (Q : Value → Shared → Prop),zS h s.heap → (∀ v s',Keeps s s' → Z s.heap s'.heap v → Q v s') → wpAny (model prog w) A (eval e env) Q E s) (hst : ∀ rest,starEach (e :: rest) env = (false,eval e env) :: starEach rest env)
  (hcall : ∀ s₀ s v E Q,zS h s₀.heap → Keeps s₀ s → Z s₀.heap s.heap v → (∀ u s',Keeps s₀ s' → R' s'.heap u → Q u s') → wpAny (model prog w) A (PySem.call f [v]) Q E s) : Ev prog w A h (.Call (.Name fx fp) [e] [] pos) env R':=by
 intro s E Q kx hQ
 refine wpAny_Call_Name_kw (hf s E _ kx fun u s₁ k₁ e => ?_)
 subst e
 refine callWith_of (P:=zS B) (by rw [hst]; rfl) (fun h' X => ya K h' X) ?_
 have key : ∀ Q' : Args → Shared → Prop,(∀ v s',Keeps s₁ s' → Z s₁.heap s'.heap v → Q' ⟨[v],[]⟩ s') → wpAny (model prog w) A (evalArgs u true (backTo pos (starEach [e] env)) []) Q' E s₁:=by
  intro Q' hQ'
  have key : wpAny (model prog w) A (spliced (backTo pos (starEach [e] env))) (fun vs s' => Q' ⟨vs,[]⟩ s') E s₁:=by
   rw [hst]
   show wpAny _ _ (spliced ((false,eval e env) :: backTo pos (starEach [] env))) _ E s₁
   exact spliced_cons (he s₁ E _ (kx.trans (ke k₁)) fun v s₂ k₂ r => spliced_nil (hQ' v s₂ k₂ r))
  rw [hst] at key ⊢
  exact evalArgs_plain key
 refine key _ fun v s₂ k₂ r => ?_
 have X:=kx.trans ((ke k₁).trans (ke k₂))
 exact ⟨S.base.trans X,hcall s₁ s₂ v E Q (kx.trans (ke k₁)) k₂ r fun u s' k₃ r => hQ u s' (zA k₁ k₃) r⟩
noncomputable def zCB (K : Nat → Int) (n : Nat) (h₀ h : Heap) (v : Value) : Prop :=
 ∃ z TI TO i1 i2 l1 xs,v = .ref z ∧ ZipApart z TI TO i1 i2 l1 l1 ∧ ZLt z TI TO i1 i2 l1 h.objs.size ∧ WZ h z TI TO i1 i2 l1 xs (h.objs.size + 1) 0 ∧ xs.size = n ∧ (∀ j < n,∃ t,xs[j]? = some (.int (K j) t)) ∧ ∀ a ∈ [z,TO,i1,i2],h₀.get? a = none
theorem Ev.sortZ {mg mb : Str → Option Value} (G : Gl B mg mb) (hz : mg (ofString "zip") = none ∧ mb (ofString "zip") = some (.type "zip")) (hs : mg (ofString "sorted") = none ∧ mb (ofString "sorted") = some (.builtin "sorted")) (hr : mg (ofString "range") = none ∧ mb (ofString "range") = some (.type "range"))
   (R : Rm A 0) (S : En prog w B names env h M ρ μ) {dr is : List Nat} (hl : dr.length ≤ 5) (his : WA (fun i => (dr.getD i 0 : Int)) dr.length is) {f1 f2 f3 p1 p2 p3 p4 : Pos} {k : Nat} {e : Expr} (n1 : names.lookup (ofString "sorted") = some .globalImplicit) (n2 : names.lookup (ofString "zip") = some .globalImplicit) (n3 : names.lookup (ofString "range") = some .globalImplicit)
   (he : Ev prog w A h e env (PS prog w M (.list (dr.map zC)))) (hst : ∀ rest,starEach (e :: rest) env = (false,eval e env) :: starEach rest env) :
   Ev prog w A h (.Call (.Name (ofString "sorted") f1) [.Call (.Name (ofString "zip") f2) [e,.Call (.Name (ofString "range") f3) [.Constant (.int 5) k p4] [] p3] [] p2] [] p1) env (PS prog w M (.list (is.map (prD fun i => (dr.getD i 0 : Int))))):=by
 refine Ev.call1H (Z:=zCB (fun i => (dr.getD i 0 : Int)) dr.length) S (Ev.glob G S n1 (.inr hs) (by decide)) (.inl fun _ e => by cases e) (fun s E Q X hQ => ?_) (fun _ => rfl) ?_
 · have S':=S.ext X
   refine wh (f:=.type "zip") (rs:=[.dat (.list (dr.map zC)),.dat (.rng 0 5 1)]) S' (Ev.glob G S' n2 (.inr hz) (by decide)) (.inl fun _ e => by cases e) (.cons (r:=.dat (.list (dr.map zC))) (he.ext X) (.cons (r:=.dat (.rng 0 5 1)) ?_ .nil fun _ => rfl) hst) fun vs s₁ k₁ rs => ?_
   · exact Ev.call S' R (Ev.glob G S' n3 (.inr hr) (by decide)) (.inl fun _ e => by cases e) (yy.cons (Ev.rd (Ev.const_int _ _ _)) .nil fun _ => rfl) (zG.range1 5)
   · refine zP.use2 rs fun v1 v2 r1 r2 => ?_
     obtain ⟨l1,us,rfl,⟨n,pl⟩,m1,q⟩:=Rp.list_inv r1
     obtain ⟨rr,t,u,x,rfl,hr',m2⟩:=Rp.rng_inv r2
     have hl1 : s₁.heap.IsList l1 us.toArray:=Heap.PlainList.isList ⟨n,pl⟩
     have hlt : l1 < s₁.heap.objs.size:=lt_size pl
     refine Xg (lo:=s₁.heap.objs.size + 5 + 1) hl1 hr' fun h' z hsz hk => hQ _ _ (zA k₁ ⟨h',s₁.toks,rfl,hk⟩) ?_
     have ulen:=q.length
     rw [length_map] at ulen
     refine ⟨_,_,_,_,_,l1,us.toArray,rfl,XR hlt, ?_,by rw [hsz]; exact z,by rw [size_toArray]; exact ulen,fun j hj => ?_,fun a ha => ?_⟩
     · rw [hsz]
       have lt5 : ∀ i : Nat,i < 5 → s₁.heap.objs.size + i < s₁.heap.objs.size + 5:=fun i hi => Nat.add_lt_add_left hi _
       exact ⟨lt5 4 (by decide),lt5 2 (by decide),lt5 3 (by decide),lt5 0 (by decide),lt5 1 (by decide),lt_of_lt_of_le hlt (le_add_right _ 5)⟩
     · obtain ⟨v,e1,rv⟩:=q.get (i:=j) (d:=zC (dr.getD j 0)) (by rw [getElem?_map,getD_eq_getElem?_getD,getElem?_eq_getElem hj]; rfl)
       obtain ⟨t',rfl⟩:=Rp.int_inv rv
       exact ⟨t',by rw [List.getElem?_toArray]; exact e1⟩
     · refine z9 k₁ ?_
       have hno : ∀ a,s₁.heap.objs.size ≤ a → s₁.heap.get? a = none:=fun a ha => by
         cases q : s₁.heap.get? a with
         | none => rfl
         | some o => exact absurd (lt_size q) (Nat.not_lt.mpr ha)
       simp only [mem_cons,not_mem_nil,or_false] at ha
       rcases ha with rfl | rfl | rfl | rfl
       · exact hno _ (le_add_right _ 4)
       · exact hno _ (le_add_right _ 3)
       · exact hno _ (le_refl _)
       · exact hno _ (le_add_right _ 1)
 · rintro s₀ s v E Q X k₀ ⟨z,TI,TO,i1,i2,l1,xs,rfl,D,L,x,hn,hK,hfr⟩ hQ
   rw [← hn] at hl his hK
   have nz : ∀ a ∈ [z,TO,i1,i2],∀ b o,s₀.heap.get? b = some o → b ≠ a:=fun a ha b o e q => by
     rw [q,hfr a ha] at e; cases e
   refine Xy (M:=M) R.hh D L x hl hK his (fun a m => ?_) fun v h' tk hk rv => ?_
   · obtain ⟨o,e⟩:=S.old a m
     have e0:=X a o e
     exact ⟨nz z (.head _) a o e0,nz TO yY a o e0,nz i1 wM a o e0,nz i2 qE a o e0,o,ke k₀ a o e0⟩
   · obtain ⟨h1,tk1,rfl,kk⟩:=k₀
     exact hQ v _ ⟨h',tk,rfl,fun b o e => hk b o (nz z (.head _) b o e) (nz TO yY b o e) (nz i1 wM b o e) (nz i2 qE b o e) (kk b o e)⟩ rv
example : True:=by
 (k_with "kd" => first | kernel_rfl | decide)
 (k_with "mem" => with_reducible first
 | exact kR | exact yY | exact wM | exact qE | exact WH | exact zA0 | exact zBa | exact zBU | exact zBJ | exact zB5 | assumption
 | (refine' mem_append_left _ _; k_extra "mem")
 | (refine' mem_append_right _ _; k_extra "mem")
 | (refine' jt _ _; k_extra "mem"; k_extra "kd")
 | (refine' KX _ _; k_extra "mem"; k_extra "kd")
 | (refine' jH _ _; k_extra "mem"; k_extra "kd")
 | (refine' List.mem_cons_of_mem _ _; k_extra "mem"))
 (k_with "o" => first
  | (with_reducible first | exact zero_le _ | exact le_refl _ | assumption | exact natCast_nonneg _ | exact le_of_lt (by assumption))
  | (with_reducible refine' le_trans (by assumption) _; decide)
  | (with_reducible refine' lt_of_lt_of_le (by assumption) _; decide)
  | (with_reducible refine' le_trans (le_of_lt (by assumption)) _; decide)
  | (with_reducible refine' jw (lt_of_lt_of_le (by assumption) _); decide)
  | (with_reducible refine' jw (lt_of_le_of_lt (by assumption) _); decide)
  | omega)
 (k_with "ari" => first | k_extra "o" | (simp only [sizeLine_eq,length_map,length_cons,List.length_nil,length_append]; k_extra "o") | (simp [sizeLine_eq,xz,QP,all_eq_true,Ws]; done) | (simp [sizeLine_eq]; omega) | (simp only [Builtin.Range.small,and_eq_true,decide_eq_true_eq]; omega) | (simp [xz,QP,all_eq_true]; intros; assumption) | (simp; omega))
 (k_with "slot" => with_reducible first | exact PySem.F.slot_str_startswith | exact PySem.F.slot_str_endswith | exact PySem.F.slot_str_find | exact PySem.F.slot_str_join | exact PySem.F.slot_str_lower | exact PySem.F.slot_str_upper | exact PySem.F.slot_str_swapcase | exact PySem.F.slot_str_count | exact PySem.F.slot_str_split | exact PySem.F.slot_list_append | exact PySem.F.slot_list_insert | exact PySem.F.slot_list_pop | exact PySem.F.slot_list_clear)
 (k_with "mty" => with_reducible first | exact PySem.F.type_str_startswith | exact PySem.F.type_str_endswith | exact PySem.F.type_str_find | exact PySem.F.type_str_join | exact PySem.F.type_str_lower | exact PySem.F.type_str_upper | exact PySem.F.type_str_swapcase | exact PySem.F.type_str_count | exact PySem.F.type_str_split | exact PySem.F.type_list_append | exact PySem.F.type_list_insert | exact PySem.F.type_list_pop | exact PySem.F.type_list_clear)
 (k_with "pa" => with_reducible first | exact PySem.F.plainAttrs_str | exact PySem.F.plainAttrs_list)
 (k_with "eq" => first | with_reducible assumption | ((with_reducible show zT _ _ = true); kernel_rfl) | ((with_reducible show (_ == _) = false); kernel_rfl) | exact rfl | decide | k_extra "pa" | k_extra "slot" | k_extra "mty" | ((with_reducible show IntMulOk _ _); mul_fits) | exact PyProof.noPylong_of_log2 (by decide +kernel) | k_extra "ari" | assumption)
 (k_with "S" => first | with_reducible assumption | exact St.e (by with_reducible assumption))
 (k_with "no" => first | (fail_if_success show (_ : Prop)) | k_extra "S")
 (k_with "nm" => first | k_extra "no" | k_extra "mem" | k_extra "kd")
 (k_with "gl" => first | k_extra "no" | (with_reducible first | assumption | exact Or.inl (by assumption) | exact Or.inr (by assumption) | exact Or.inl (zl.g (by assumption))) | exact (fun _ _ => Rp.str _ _) | exact (fun _ _ => Rp.int _ _) | k_extra "kd")
 (k_with "ev" => first
 | ((with_reducible refine' Ev.nameM _ _ _ _) <;> k_extra "nm")
 | ((with_reducible refine' Ev.rd _) <;> k_extra "z")
 | ((with_reducible refine' Ev.name _ _ _) <;> k_extra "nm")
 | ((with_reducible refine' Ev.glob _ _ _ _ _) <;> k_extra "gl")
 | ((with_reducible refine' Ev.globD _ _ _ _ _ _) <;> k_extra "gl")
 | ((with_reducible first | refine' Ev.const_int _ _ _ | refine' Ev.const_str _ _ _ | refine' Ev.const_bool _ _ _ | refine' Ev.const_none _ _ | refine' Ev.bin _ _ _ _ | refine' Ev.cmp _ _ _ _ _ | refine' Ev.not _ _ | refine' Ev.neg _ | refine' Ev.or2 _ _ _ | refine' Ev.and2 _ _ _ | refine' Ev.ifExp _ _ _ | refine' Ev.list _ _ _ | refine' Ev.tuple _ _ _ | refine' Ev.slice _ _ _ _ _ _ _ | refine' Ev.item _ _ _ _ _ | refine' Ev.call _ _ _ _ _ _ | refine' Ev.meth _ _ _ _ _ _ _ _ _ _ _ _) <;> k_extra "z")
 | ((first | exact Ev.const_int _ _ _ | exact Ev.const_str _ _ _ | exact Ev.const_none _ _ | refine' Ev.name _ _ _) <;> k_extra "nm")
 | ((fail_if_success (with_reducible show Ev _ _ _ _ _ _ (PS _ _ _ _))); (fail_if_success (with_reducible show Ev _ _ _ _ _ _ (PR _ _ _ _))); (show Ev _ _ _ _ _ _ (PS _ _ _ _)); k_extra "z"))
 (k_with "z" => first
 | k_extra "no"
 | (with_reducible show ∀ s' : Shared,St _ _ _ _ _ _ _ _ _ _ _ _ s' → _)
 | exact Rm.le (by with_reducible assumption) (zero_le _)
 | ((fail_if_success (with_reducible show Ev _ _ _ _ _ _ _)); k_extra "z1")
 | k_extra "ev")
 (k_with "z1" => first
 | exact Zr.nil | exact yy.nil | exact zY.none | exact Tv.or_nil | exact Tv.and_nil
 | ((with_reducible first | refine' Zr.cons _ _ _ | refine' yy.cons _ _ _ | refine' zY.some _ | refine' Tv.cmp _ _ _ _ _ | refine' Tv.not _ | refine' Tv.or_cons _ _ | refine' Tv.and_cons _ _) <;> k_extra "z")
 | exact ym.none
 | ((with_reducible first | refine' ym.bool _ | refine' ym.int _ | refine' ym.list _ _ | refine' ym.str _ _) <;> k_extra "z")
 | ((with_reducible refine' Tv.plain _ _ _) <;> k_extra "z")
 | ((with_reducible refine' zj.rng _) <;> k_extra "z")
 | ((with_reducible refine' zj.list _) <;> k_extra "z")
 | exact zj.same
 | ((with_reducible refine' zj.tup _) <;> k_extra "z")
 | exact zj.sameT
 | ((with_reducible refine' kK.list _ _) <;> k_extra "z")
 | ((with_reducible first | refine' yC.add _ _ | refine' yC.addB _ _ | refine' yC.addIB _ _ | refine' yC.sub _ _ | refine' yC.mod _ _ _ _ | refine' yC.fdiv _ _ _ _ | refine' yC.and _ _ | refine' yC.or _ _ | refine' yC.mulIB _ _ | refine' yC.mul _ _ _ | refine' yC.shl _ _ _ _ _ | refine' yC.shr _ _ _ | refine' yC.addS _ _ _ | refine' yC.addL _ _ _) <;> k_extra "z")
 | ((with_reducible first | refine' zN.inS _ _ | refine' zN.notInS _ _ | refine' zN.eqS _ _ | refine' zN.neS _ _ | refine' zN.le _ _ | refine' zN.ge _ _ | refine' zN.lt _ _ | refine' zN.gt _ _ | refine' zN.eqI _ _ | refine' zN.neI _ _) <;> k_extra "z")
 | ((with_reducible refine' zN.is _) <;> k_extra "z")
 | ((with_reducible refine' zN.isNot _) <;> k_extra "z")
 | ((with_reducible refine' zN.eq _ _) <;> k_extra "z")
 | ((with_reducible refine' zN.ne _ _) <;> k_extra "z")
 | ((with_reducible refine' zN.inL _ _) <;> k_extra "z")
 | ((with_reducible refine' zN.notInL _ _) <;> k_extra "z")
 | ((with_reducible first | refine' zG.startswith _ _ | refine' zG.endswith _ _ | refine' zG.find4 _ _ _ _ | refine' zG.count _ _ | refine' zG.join _ _ _ | refine' zG.upper _ _ | refine' zG.lower _ _ | refine' zG.swapcase _ _ | refine' zG.range1 _ | refine' zG.range2 _ _ | refine' zG.range3 _ _ _ _ _ | refine' zG.lenL _ _ | refine' zG.lenS _ _ | refine' zG.sum _ _) <;> k_extra "z")
 | ((with_reducible first | refine' wI.append _ _ _ | refine' wI.clear _ _) <;> k_extra "z")
 | ((first | refine' Xk.add _ _ | refine' Xk.sub _ _ | refine' Xk.xor _ _ | refine' Xk.or _ _ | refine' Xk.shl _ _ _ _ _) <;> k_extra "z")
 | exact Or.inl (fun _ e => by cases e) | exact zl.keepy (by with_reducible assumption) | exact Or.inr rfl | (refine' Or.inl _ <;> k_extra "z")
 | ((first | refine' zG.hex _ _ | refine' zG.join _ _ _ | refine' zG.upper _ _ | refine' zG.lower _ _ | refine' zG.range1 _ | refine' zG.range2 _ _ | refine' zG.lenL _ _ | refine' zG.lenS _ _ | refine' zG.count _ _) <;> k_extra "z")
 | exact Wq.nil | ((refine' Wq.cons (d:=.dat _) _ _ _) <;> k_extra "z") | ((refine' Wq.cons (d:=.new _) _ _ _) <;> k_extra "z")
 | ((with_reducible show zBK _ _ _ _ _ _ _ _ _); intro _ _ _ _; k_extra "z")
 | k_extra "mem"
 | ((with_reducible show ∀ _ : _,_); intro _; k_extra "z")
 | k_extra "eq")
 (k_with "next" => (clear S; intro s' S))
 (k_with "set" => ((refine' z7 _ _ _ _ _ <;> k_extra "z"); k_extra "next"))
 (k_with "if" => ((refine' xn _ _ _ <;> k_extra "z"); k_extra "next"))
 (k_with "assert" => ((refine' Vn _ _ _ _ <;> k_extra "z"); k_extra "next"))
 (k_with "aug" => ((refine' QZ _ _ _ _ _ _ <;> k_extra "z"); k_extra "next"))
 (k_with "mut0" => ((refine' wm (pre:=[]) _ _ _ _ _ _ _ _ _ _ _ _ _ _ _ <;> k_extra "z"); k_extra "next"))
 (k_with "fs" => (intro _; rfl))
 (k_with "sub" => first
 | with_reducible exact all_nil
 | (refine' all_cons _ _; k_extra "mem"; k_extra "sub"))
 (k_with "flat" => simp only [map_cons,map_nil,nil_append,List.cons_append,zip_cons_cons,zip_nil_right] at S)
 trivial
theorem X3 {α : Type} {a : Option α} {o : α} {p : Prop} (h : a = none) (e : a = some o) : p:=by rw [h] at e; cases e
noncomputable def yK {τ : Type} (go : τ → D → τ × Bool) (xs : List D) : Nat → Nat → Nat → τ → τ × Nat
 | 0,lo,_,c => (c,lo)
 | n + 1,lo,hi,c => if lo < hi then
   (if (go c (xs.getD ((lo + hi) / 2) .none)).2 then yK go xs n ((lo + hi) / 2 + 1) hi (go c (xs.getD ((lo + hi) / 2) .none)).1 else yK go xs n lo ((lo + hi) / 2) (go c (xs.getD ((lo + hi) / 2) .none)).1)
  else (c,lo)
theorem w9 {τ : Type} (go : τ → D → τ × Bool) (xs : List D) (lo hi : Nat) (c : τ) : yK go xs 0 lo hi c = (c,lo):=rfl
theorem wx {τ : Type} (go : τ → D → τ × Bool) (xs : List D) (n lo hi : Nat) (c : τ) : yK go xs (n + 1) lo hi c = if lo < hi then
  (if (go c (xs.getD ((lo + hi) / 2) .none)).2 then yK go xs n ((lo + hi) / 2 + 1) hi (go c (xs.getD ((lo + hi) / 2) .none)).1 else yK go xs n lo ((lo + hi) / 2) (go c (xs.getD ((lo + hi) / 2) .none)).1)
 else (c,lo):=rfl
theorem xc {τ : Type} (go : τ → D → τ × Bool) (xs : List D) : ∀ (n m lo hi : Nat) (c : τ),hi - lo ≤ n → hi - lo ≤ m → yK go xs n lo hi c = yK go xs m lo hi c
 | 0,0,_,_,_,_,_ => rfl
 | 0,m + 1,lo,hi,c,h,_ => by simp only [w9,wx]; rw [if_neg (Nat.not_lt.mpr (Nat.sub_eq_zero_iff_le.mp (Nat.le_zero.mp h)))]
 | n + 1,0,lo,hi,c,_,h => by simp only [w9,wx]; rw [if_neg (Nat.not_lt.mpr (Nat.sub_eq_zero_iff_le.mp (Nat.le_zero.mp h)))]
 | n + 1,m + 1,lo,hi,c,h,h' => by
  simp only [w9,wx]
  split
  · rename_i hl
    split
    · exact xc go xs n m _ _ _ (kY hl h) (kY hl h')
    · exact xc go xs n m _ _ _ (j6 hl h) (j6 hl h')
  · rfl
noncomputable abbrev qX:=(zR WR).names
noncomputable abbrev qT:=(zR Xn).names
noncomputable def wg (ra : RV) (μa : List (Addr × D)) (xs : List D) : Prop:=(ra = .dat (.list xs) ∧ μa = []) ∨ ∃ l,ra = .adr l ∧ μa = [(l,.list xs)]
theorem qw {A : Around} {h : Heap} {M : Addr → Prop} {names : zE} {env : Env} {ρ : List (Str × RV)} {μ : List (Addr × D)} (S : En prog w B names env h M ρ μ) {ra : RV} {μa : List (Addr × D)} {xs : List D} (hp : wg ra μa xs) {x : Str} {p : Pos} (hx : (x,ra) ∈ ρ) (hm : ∀ q ∈ μa,q ∈ μ) (hdb : (x == ("__debug__" : Str)) = false) :
   Ev prog w A h (.Name x p) env (PR prog w M (.list xs)):=by
 rcases hp with ⟨rfl,rfl⟩ | ⟨l,rfl,rfl⟩
 · exact Ev.rd (Ev.name S hx hdb)
 · exact Ev.nameM S hx (hm _ (.head _)) hdb
theorem QY (G : Gl B mg mb) {k : Nat} {A : Around} {s s₁ : Shared} {Own₀ M₀ Own M M₁ : Addr → Prop} {env : Env} {τ : Type} {P : τ → Prop} {J : Nat → τ → Prop} {μk : τ → List (Addr × D)} {step : τ → D → τ × D} {f : Addr} {fo : Obj} {fd : FuncData} {xs : List D} {xd : D} {ra : RV} {μa : List (Addr × D)} (lt : D → Bool) (lo hi : Nat) (c₀ : τ)
  (R : Rm A k) (hfd : fo.data = .func fd) (K : wP prog w k B M₁ f xs P μk step) (hJP : ∀ n c,J n c → P c) (hP : J (hi - lo) c₀) (hPstep : ∀ n c d,J (n + 1) c → d ∈ xs → J n (step c d).1) (hJm : ∀ n m c,m ≤ n → J n c → J m c) (hM : ∀ a o,M a → B.get? a = some o → M₁ a) (hM₁ : ∀ a,M₁ a → M a) (hO : ∀ c a x,(a,x) ∈ μk c → Own a) (hfst : ∀ c c',(μk c).map (·.1) = (μk c').map (·.1))
  (hp : wg ra μa xs) (hsz : xs.length ≤ 100000) (hhi : hi ≤ xs.length) (hcmp : ∀ c d,P c → d ∈ xs → zN prog w .Lt (step c d).2 xd (lt (step c d).2))
  (S : St prog w B s Own₀ M₀ qX env Own M [(ofString "lo",.dat (.int lo)),(ofString "hi",.dat (.int hi)),(ofString "a",ra),(ofString "x",.dat xd),(ofString "key",.dat (.ob f fo))] (μa ++ μk c₀) s₁)
  {Q : Flow → Shared → Prop}
  (hQ : ∀ v s' ρ',St prog w B s Own₀ M₀ qX env Own M ρ' (μa ++ μk (yK (fun c d => ((step c d).1,lt (step c d).2)) xs (hi - lo) lo hi c₀).1) s' → P (yK (fun c d => ((step c d).1,lt (step c d).2)) xs (hi - lo) lo hi c₀).1 → Rp prog w s'.heap M v (.int (yK (fun c d => ((step c d).1,lt (step c d).2)) xs (hi - lo) lo hi c₀).2) → Q (.ret v) s') :
  wpAny (model prog w) A (execs ((zB WR).drop 2) env) Q (fun _ _ => False) s₁:=by
 have R0 : Rm A 0:=R.le (zero_le _)
 generalize hgo : (fun c d => ((step c d).1,lt (step c d).2)) = go at hQ
 k_extra "if"
 show wpAny _ _ (execs (if false = true then _ else _) env) _ _ _
 simp only [false_eq_true,if_false]
 have hgof : ∀ c d,go c d = ((step c d).1,lt (step c d).2):=fun c d => by rw [← hgo]
 refine' XF (σ:=Nat × Nat × τ) S R0 (fun c => [(ofString "lo",.dat (.int c.1)),(ofString "hi",.dat (.int c.2.1)),(ofString "a",ra),(ofString "x",.dat xd),(ofString "key",.dat (.ob f fo))]) (fun c => μa ++ μk c.2.2)
  (fun c => c.2.1 ≤ xs.length ∧ J (c.2.1 - c.1) c.2.2 ∧ yK go xs (hi - lo) lo hi c₀ = yK go xs (c.2.1 - c.1) c.1 c.2.1 c.2.2) (fun c => c.2.1 - c.1) (fun c => decide ((c.1 : Int) < c.2.1)) (fun _ _ _ => False) (lo,hi,c₀) ?whp ?whr ?whm ?wht ?whturn ?whdone ?whexit
 case whp => exact ⟨hhi,hP,rfl⟩
 case whr => exact fun x r hm => hm
 case whm => rfl
 case wht =>
  intro c s₁ _ S
  k_extra "z"
 case whexit => exact fun f c s' h _ => h.elim
 case whdone =>
  clear S
  intro c s' hP ht S
  obtain ⟨h1,h2,h3⟩:=hP
  have e : yK go xs (c.2.1 - c.1) c.1 c.2.1 c.2.2 = (c.2.2,c.1):=by
    have : c.2.1 - c.1 = 0:=jh ht
    rw [this]; rfl
  rw [h3,e] at hQ
  refine zD ?_
  refine' xO (d:=.int c.1) S ?ra ?rb
  case ra => k_extra "z"
  case rb => exact fun v s' S' r => hQ v s' _ S' (hJP _ _ h2) r
 case whturn =>
  clear S hQ
  intro c s₁ hP ht S
  obtain ⟨lo',hi',c⟩:=c
  obtain ⟨h1,h2,h3⟩:=hP
  dsimp only at h1 h2 h3 ht S ⊢
  have hlt : lo' < hi':=Zn ht
  k_extra "set"
  rw [Y6] at S
  generalize hm : (lo' + hi') / 2 = mid at S
  have mf:=zBS hlt hm
  have hml : mid < xs.length:=lt_of_lt_of_le mf.1 h1
  obtain ⟨d,hd⟩ : ∃ d,xs[mid]? = some d:=⟨xs[mid],getElem?_eq_getElem hml⟩
  have hdx : d ∈ xs:=mem_of_getElem? hd
  have hgd : xs.getD mid .none = d:=by rw [getD_eq_getElem?_getD,hd]; rfl
  have hstep : yK go xs (hi' - lo') lo' hi' c = if lt (step c d).2 then yK go xs (hi' - (mid + 1)) (mid + 1) hi' (step c d).1 else yK go xs (mid - lo') lo' mid (step c d).1:=by
    rw [wW hlt]
    simp only [w9,wx]
    rw [if_pos hlt,hm,hgd,hgof]
    split
    · exact xc go xs _ _ _ _ _ (by first | exact mf.2.1 | exact mf.2.2.1) (le_refl _)
    · exact xc go xs _ _ _ _ _ (by first | exact mf.2.1 | exact mf.2.2.1) (le_refl _)
  refine Q0 (b:=lt (step c d).2) (μ':=μa ++ μk (step c d).1) S (fun Q' hQ' => ?_) ?_
  · refine wpAny_isTrue_Compare1 (Jd S R (x:=ofString "key") ?kx ?kd hfd (fun _ => rfl) ?ke hdx K (hJP _ _ h2) hM hM₁ (hO c) hfst fun v s' S' rv _ => ?kq) rfl
    case kx => k_extra "mem"
    case kd => k_extra "kd"
    case ke =>
      refine' Ev.item (d:=d) (i:=mid) (xs:=xs) ?iv ?ii (natCast_nonneg _) (jw (lt_of_lt_of_le hml (le_trans hsz (by decide)))) ?id
      case iv => exact qw S.e hp (by k_extra "mem") (fun q hq => mem_append_left _ hq) (by k_extra "kd")
      case ii => k_extra "z"
      case id => rw [show (mid : Int).toNat = mid from toNat_natCast mid]; exact hd
    case kq =>
      have hx : ∀ q,Ev prog w A s'.heap (.Name (ofString "x") q) env (PR prog w M xd):=fun q => Ev.rd (Ev.name S'.e (by k_extra "mem") (by k_extra "kd"))
      refine hx _ s' _ _ (zS.refl _) fun u s₂ k₂ ru => ?_
      exact hcmp c d (hJP _ _ h2) hdx A M s₂ _ _ v u R0.hu (.inl (rv.ext (ke k₂))) ru fun s₃ k₃ => wpAny_truthy_bool (hQ' s₃ (S'.step (zA k₂ k₃)))
  clear S
  intro s' S
  have hPc : J (hi' - lo' - 1) (step c d).1:=hPstep _ c d (by rw [← wW hlt]; exact h2) hdx
  cases hb : lt (step c d).2
  · rw [hb] at hstep
    simp only [false_eq_true,if_false] at hstep ⊢
    k_extra "set"
    refine zD (zD ?_)
    refine ⟨(lo',mid,(step c d).1),_,_,S.sub ?_,⟨le_of_lt hml,hJm _ _ _ mf.2.2.1 hPc,by rw [h3,hstep]⟩,mf.2.2.2.2⟩
    k_extra "sub"
  · rw [hb] at hstep
    simp only [if_true] at hstep ⊢
    k_extra "set"
    refine zD (zD ?_)
    refine ⟨(mid + 1,hi',(step c d).1),_,_,S.sub ?_,⟨h1,hJm _ _ _ mf.2.1 hPc,by rw [h3,hstep]⟩,mf.2.2.2.1⟩
    dsimp only
    rw [show ((mid + 1 : Nat) : Int) = (mid : Int) + 1 from rfl]
    k_extra "sub"
theorem Ji (G : Gl B mg mb) {k : Nat} {A : Around} {s s₁ : Shared} {Own₀ M₀ Own M M₁ : Addr → Prop} {env : Env} {τ : Type} {P : τ → Prop} {J : Nat → τ → Prop} {μk : τ → List (Addr × D)} {step : τ → D → τ × D} {f : Addr} {fo : Obj} {fd : FuncData} {xs : List D} {xd : D} {ra : RV} {μa : List (Addr × D)} (lt : D → Bool) (lo hi : Nat) (c₀ : τ)
  (R : Rm A k) (hfd : fo.data = .func fd) (K : wP prog w k B M₁ f xs P μk step) (hJP : ∀ n c,J n c → P c) (hP : J (hi - lo) c₀) (hPstep : ∀ n c d,J (n + 1) c → d ∈ xs → J n (step c d).1) (hJm : ∀ n m c,m ≤ n → J n c → J m c) (hM : ∀ a o,M a → B.get? a = some o → M₁ a) (hM₁ : ∀ a,M₁ a → M a) (hO : ∀ c a x,(a,x) ∈ μk c → Own a) (hfst : ∀ c c',(μk c).map (·.1) = (μk c').map (·.1))
  (hp : wg ra μa xs) (hsz : xs.length ≤ 100000) (hhi : hi ≤ xs.length) (hcmp : ∀ c d,P c → d ∈ xs → zN prog w .Lt xd (step c d).2 (lt (step c d).2))
  (S : St prog w B s Own₀ M₀ qT env Own M [(ofString "lo",.dat (.int lo)),(ofString "hi",.dat (.int hi)),(ofString "a",ra),(ofString "x",.dat xd),(ofString "key",.dat (.ob f fo))] (μa ++ μk c₀) s₁)
  {Q : Flow → Shared → Prop}
  (hQ : ∀ v s' ρ',St prog w B s Own₀ M₀ qT env Own M ρ' (μa ++ μk (yK (fun c d => ((step c d).1,!lt (step c d).2)) xs (hi - lo) lo hi c₀).1) s' → P (yK (fun c d => ((step c d).1,!lt (step c d).2)) xs (hi - lo) lo hi c₀).1 → Rp prog w s'.heap M v (.int (yK (fun c d => ((step c d).1,!lt (step c d).2)) xs (hi - lo) lo hi c₀).2) → Q (.ret v) s') :
  wpAny (model prog w) A (execs ((zB Xn).drop 2) env) Q (fun _ _ => False) s₁:=by
 have R0 : Rm A 0:=R.le (zero_le _)
 generalize hgo : (fun c d => ((step c d).1,!lt (step c d).2)) = go at hQ
 k_extra "if"
 show wpAny _ _ (execs (if false = true then _ else _) env) _ _ _
 simp only [false_eq_true,if_false]
 have hgof : ∀ c d,go c d = ((step c d).1,!lt (step c d).2):=fun c d => by rw [← hgo]
 refine' XF (σ:=Nat × Nat × τ) S R0 (fun c => [(ofString "lo",.dat (.int c.1)),(ofString "hi",.dat (.int c.2.1)),(ofString "a",ra),(ofString "x",.dat xd),(ofString "key",.dat (.ob f fo))]) (fun c => μa ++ μk c.2.2)
  (fun c => c.2.1 ≤ xs.length ∧ J (c.2.1 - c.1) c.2.2 ∧ yK go xs (hi - lo) lo hi c₀ = yK go xs (c.2.1 - c.1) c.1 c.2.1 c.2.2) (fun c => c.2.1 - c.1) (fun c => decide ((c.1 : Int) < c.2.1)) (fun _ _ _ => False) (lo,hi,c₀) ?whp ?whr ?whm ?wht ?whturn ?whdone ?whexit
 case whp => exact ⟨hhi,hP,rfl⟩
 case whr => exact fun x r hm => hm
 case whm => rfl
 case wht =>
  intro c s₁ _ S
  k_extra "z"
 case whexit => exact fun f c s' h _ => h.elim
 case whdone =>
  clear S
  intro c s' hP ht S
  obtain ⟨h1,h2,h3⟩:=hP
  have e : yK go xs (c.2.1 - c.1) c.1 c.2.1 c.2.2 = (c.2.2,c.1):=by
    have : c.2.1 - c.1 = 0:=jh ht
    rw [this]; rfl
  rw [h3,e] at hQ
  refine zD ?_
  refine' xO (d:=.int c.1) S ?ra ?rb
  case ra => k_extra "z"
  case rb => exact fun v s' S' r => hQ v s' _ S' (hJP _ _ h2) r
 case whturn =>
  clear S hQ
  intro c s₁ hP ht S
  obtain ⟨lo',hi',c⟩:=c
  obtain ⟨h1,h2,h3⟩:=hP
  dsimp only at h1 h2 h3 ht S ⊢
  have hlt : lo' < hi':=Zn ht
  k_extra "set"
  rw [Y6] at S
  generalize hm : (lo' + hi') / 2 = mid at S
  have mf:=zBS hlt hm
  have hml : mid < xs.length:=lt_of_lt_of_le mf.1 h1
  obtain ⟨d,hd⟩ : ∃ d,xs[mid]? = some d:=⟨xs[mid],getElem?_eq_getElem hml⟩
  have hdx : d ∈ xs:=mem_of_getElem? hd
  have hgd : xs.getD mid .none = d:=by rw [getD_eq_getElem?_getD,hd]; rfl
  have hstep : yK go xs (hi' - lo') lo' hi' c = if !lt (step c d).2 then yK go xs (hi' - (mid + 1)) (mid + 1) hi' (step c d).1 else yK go xs (mid - lo') lo' mid (step c d).1:=by
    rw [wW hlt]
    simp only [w9,wx]
    rw [if_pos hlt,hm,hgd,hgof]
    split
    · exact xc go xs _ _ _ _ _ (by first | exact mf.2.1 | exact mf.2.2.1) (le_refl _)
    · exact xc go xs _ _ _ _ _ (by first | exact mf.2.1 | exact mf.2.2.1) (le_refl _)
  refine Q0 (b:=lt (step c d).2) (μ':=μa ++ μk (step c d).1) S (fun Q' hQ' => ?_) ?_
  · have hx : ∀ q,Ev prog w A s'.heap (.Name (ofString "x") q) env (PS prog w M xd):=fun q => Ev.name S.e (by k_extra "mem") (by k_extra "kd")
    refine wpAny_isTrue_Compare1 (hx _ s' _ _ (zS.refl _) fun u s₂ k₂ ru => ?_) rfl
    have S₂:=S.step k₂
    have hE₂:=S₂.e
    refine Jd S₂ R (x:=ofString "key") ?kx ?kd hfd (fun _ => rfl) ?ke hdx K (hJP _ _ h2) hM hM₁ (hO c) hfst fun v s₃ S₃ rv hkp => ?kq
    case kx => k_extra "mem"
    case kd => k_extra "kd"
    case ke =>
      refine' Ev.item (d:=d) (i:=mid) (xs:=xs) ?iv ?ii (natCast_nonneg _) (jw (lt_of_lt_of_le hml (le_trans hsz (by decide)))) ?id
      case iv => exact qw hE₂ hp (by k_extra "mem") (fun q hq => mem_append_left _ hq) (by k_extra "kd")
      case ii => k_extra "z"
      case id => rw [show (mid : Int).toNat = mid from toNat_natCast mid]; exact hd
    case kq =>
      have ru' : Rp prog w s₃.heap M u xd:=Rp.to hkp ru
      exact hcmp c d (hJP _ _ h2) hdx A M s₃ _ _ u v R0.hu (.inl ru') (.inl rv) fun s₄ k₄ => wpAny_truthy_bool (hQ' s₄ (S₃.step k₄))
  clear S
  intro s' S
  have hPc : J (hi' - lo' - 1) (step c d).1:=hPstep _ c d (by rw [← wW hlt]; exact h2) hdx
  cases hb : lt (step c d).2
  rotate_left
  · rw [hb] at hstep
    simp only [Bool.not_true,false_eq_true,if_false,if_true] at hstep ⊢
    k_extra "set"
    refine zD (zD ?_)
    refine ⟨(lo',mid,(step c d).1),_,_,S.sub ?_,⟨le_of_lt hml,hJm _ _ _ mf.2.2.1 hPc,by rw [h3,hstep]⟩,mf.2.2.2.2⟩
    k_extra "sub"
  · rw [hb] at hstep
    simp only [Bool.not_false,if_true,false_eq_true,if_false] at hstep ⊢
    k_extra "set"
    refine zD (zD ?_)
    refine ⟨(mid + 1,hi',(step c d).1),_,_,S.sub ?_,⟨h1,hJm _ _ _ mf.2.1 hPc,by rw [h3,hstep]⟩,mf.2.2.2.1⟩
    dsimp only
    rw [show ((mid + 1 : Nat) : Int) = (mid : Int) + 1 from rfl]
    k_extra "sub"
theorem Vr (G : Gl B mg mb) (hl : mg "len" = none ∧ mb "len" = some (.builtin "len")) {A : Around} {s s₁ : Shared} {Own₀ M₀ Own M : Addr → Prop} {env : Env} {xs : List D} {xd hd kd : D} {ra : RV} {μa μ : List (Addr × D)} (lo hi : Nat)
   (R : Rm A 0) (hp : wg ra μa xs) (hsz : xs.length ≤ 100000) (hhi : (hd = .none ∧ hi = xs.length) ∨ hd = .int hi)
   (S : St prog w B s Own₀ M₀ qX env Own M [(ofString "a",ra),(ofString "x",.dat xd),(ofString "lo",.dat (.int lo)),(ofString "hi",.dat hd),(ofString "key",.dat kd)] (μa ++ μ) s₁)
   {Q : Flow → Shared → Prop} {E : Value → Shared → Prop}
   (hQ : ∀ s',St prog w B s Own₀ M₀ qX env Own M [(ofString "lo",.dat (.int lo)),(ofString "hi",.dat (.int hi)),(ofString "a",ra),(ofString "x",.dat xd),(ofString "key",.dat kd)] (μa ++ μ) s' → wpAny (model prog w) A (execs ((zB WR).drop 2) env) Q E s') :
   wpAny (model prog w) A (execs (zB WR) env) Q E s₁:=by
 k_extra "if"
 rw [show decide ((lo : Int) < 0) = false from decide_eq_false (by k_extra "o")]
 refine zD ?_
 show wpAny _ _ _ _ _ _
 rcases hhi with ⟨rfl,rfl⟩ | rfl
 · k_extra "if"
   show wpAny _ _ (execs (if true = true then _ else _) env) _ _ _
   simp only [if_true]
   have hlen : ∀ q1 q2 q3,Ev prog w A s'.heap (.Call (.Name (ofString "len") q1) [.Name (ofString "a") q2] [] q3) env (PS prog w M (.int xs.length)):=by
    intro q1 q2 q3
    refine' Ev.call S.e R ?qf ?K ?qx (zG.lenL xs (by rw [sizeLine_eq]; k_extra "o"))
    case qf | K => k_extra "z"
    case qx => exact .cons (qw S.e hp (by k_extra "mem") (fun q hq => mem_append_left _ hq) (by k_extra "kd")) .nil (fun _ => rfl)
   refine' z7 S (hlen _ _ _) ?qb ?qc ?qd
   case qb => k_extra "kd"
   case qc => rfl
   case qd =>
    intro s' S
    refine zD (hQ s' (S.sub ?_))
    k_extra "sub"
 · k_extra "if"
   show wpAny _ _ (execs (if false = true then _ else _) env) _ _ _
   simp only [false_eq_true,if_false]
   refine zD (hQ _ (S.sub ?_))
   k_extra "sub"
theorem Vx (G : Gl B mg mb) (hl : mg "len" = none ∧ mb "len" = some (.builtin "len")) {A : Around} {s s₁ : Shared} {Own₀ M₀ Own M : Addr → Prop} {env : Env} {xs : List D} {xd hd kd : D} {ra : RV} {μa μ : List (Addr × D)} (lo hi : Nat)
   (R : Rm A 0) (hp : wg ra μa xs) (hsz : xs.length ≤ 100000) (hhi : (hd = .none ∧ hi = xs.length) ∨ hd = .int hi)
   (S : St prog w B s Own₀ M₀ qT env Own M [(ofString "a",ra),(ofString "x",.dat xd),(ofString "lo",.dat (.int lo)),(ofString "hi",.dat hd),(ofString "key",.dat kd)] (μa ++ μ) s₁)
   {Q : Flow → Shared → Prop} {E : Value → Shared → Prop}
   (hQ : ∀ s',St prog w B s Own₀ M₀ qT env Own M [(ofString "lo",.dat (.int lo)),(ofString "hi",.dat (.int hi)),(ofString "a",ra),(ofString "x",.dat xd),(ofString "key",.dat kd)] (μa ++ μ) s' → wpAny (model prog w) A (execs ((zB Xn).drop 2) env) Q E s') :
   wpAny (model prog w) A (execs (zB Xn) env) Q E s₁:=by
 k_extra "if"
 rw [show decide ((lo : Int) < 0) = false from decide_eq_false (by k_extra "o")]
 refine zD ?_
 show wpAny _ _ _ _ _ _
 rcases hhi with ⟨rfl,rfl⟩ | rfl
 · k_extra "if"
   show wpAny _ _ (execs (if true = true then _ else _) env) _ _ _
   simp only [if_true]
   have hlen : ∀ q1 q2 q3,Ev prog w A s'.heap (.Call (.Name (ofString "len") q1) [.Name (ofString "a") q2] [] q3) env (PS prog w M (.int xs.length)):=by
    intro q1 q2 q3
    refine' Ev.call S.e R ?qf ?K ?qx (zG.lenL xs (by rw [sizeLine_eq]; k_extra "o"))
    case qf | K => k_extra "z"
    case qx => exact .cons (qw S.e hp (by k_extra "mem") (fun q hq => mem_append_left _ hq) (by k_extra "kd")) .nil (fun _ => rfl)
   refine' z7 S (hlen _ _ _) ?qb ?qc ?qd
   case qb => k_extra "kd"
   case qc => rfl
   case qd =>
    intro s' S
    refine zD (hQ s' (S.sub ?_))
    k_extra "sub"
 · k_extra "if"
   show wpAny _ _ (execs (if false = true then _ else _) env) _ _ _
   simp only [false_eq_true,if_false]
   refine zD (hQ _ (S.sub ?_))
   k_extra "sub"
theorem Z1 {fd : FuncData} {p : Arguments} {d k : Value} (hp : fd.params = p) (hd : fd.defaults = d) (hk : fd.kwdefaults = k) : fd = { fd with params:=p,defaults:=d,kwdefaults:=k }:=by
 subst hp hd hk; rfl
section
noncomputable def zAX (P : Arguments) : Prop:=∃ p1 p2 p3 p4 p5 e1 e2 e3,P = { posonlyargs:=[],args:=[⟨"a",none,p1⟩,⟨"x",none,p2⟩,⟨"lo",none,p3⟩,⟨"hi",none,p4⟩],vararg:=none,kwonlyargs:=[⟨"key",none,p5⟩],kw_defaults:=[some e1],kwarg:=none,defaults:=[e2,e3] }
structure jq (h : Heap) (fd : FuncData) (t0 : Tok) : Prop where
 par : zAX fd.params
 dfl : ∃ T o n,fd.defaults = .ref T ∧ h.get? T = some o ∧ o.data = .seq #[.int 0 t0,.none] n
 kwd : ∃ d m,fd.kwdefaults = .ref d ∧ h.Ns d m ∧ m "key" = some .none
section
variable {fd : FuncData} {t0 : Tok}
theorem kc {args : Args} {bs : List (Str × Value)} (H : jq s.heap fd t0) (e : ∀ (fd : FuncData) T d,zAX fd.params → fd.defaults = .ref T → fd.kwdefaults = .ref d → ∃ k,bindArgs fd args = (seqItems? (.ref T) >>= k) ∧ (k (some #[.int 0 t0,.none]) = pure bs ∨
   ∃ (k2 : Option Value → Sem (ForInStep (List (Str × Value) × List Str))) (k3 : ForInStep (List (Str × Value) × List Str) → Sem (List (Str × Value) × List Str)) (k4 : (List (Str × Value) × List Str) → Sem (List (Str × Value))),k (some #[.int 0 t0,.none]) = (((nsGet d "key" >>= k2) >>= k3) >>= k4) ∧ ((k2 (some .none) >>= k3) >>= k4) = pure bs)) : BindsTo s fd args bs:=by
 obtain ⟨T,o,n,hT,ho,hs⟩:=H.dfl
 obtain ⟨d,m,hd,hm,hk⟩:=H.kwd
 obtain ⟨k,e1,e2⟩:=e fd T d H.par hT hd
 intro M A E Q hQ
 rw [e1]
 refine wpAny_bind (wpAny_seqItems ho hs ?_)
 rcases e2 with e2 | ⟨k2,k3,k4,e2,e3⟩
 · rw [e2]
   exact wpAny_pure hQ
 · rw [e2,bind_assoc,bind_assoc]
   refine wpAny_bind (wpAny_nsGet hm ?_)
   rw [hk]
   rw [bind_assoc] at e3
   rw [e3]
   exact wpAny_pure hQ
theorem zBE (H : jq s.heap fd t0) (a x : Value) : BindsTo s fd ⟨[a,x],[]⟩ [(("a" : Str),a),(("x" : Str),x),(("lo" : Str),.int 0 t0),(("hi" : Str),.none),(("key" : Str),.none)]:=by
 refine kc H fun fd T d ⟨p1,p2,p3,p4,p5,g1,g2,g3,hp⟩ hT hd => ?_
 rw [Z1 hp hT hd]
 exact ⟨_,rfl,.inr ⟨_,_,_,rfl,rfl⟩⟩
theorem Zd (H : jq s.heap fd t0) (a x key : Value) : BindsTo s fd ⟨[a,x],[(("key" : Str),key)]⟩ [(("a" : Str),a),(("x" : Str),x),(("lo" : Str),.int 0 t0),(("hi" : Str),.none),(("key" : Str),key)]:=by
 refine kc H fun fd T d ⟨p1,p2,p3,p4,p5,g1,g2,g3,hp⟩ hT hd => ?_
 rw [Z1 hp hT hd]
 exact ⟨_,rfl,.inl rfl⟩
theorem Vh (H : jq s.heap fd t0) (a x lo hi key : Value) : BindsTo s fd ⟨[a,x,lo,hi],[(("key" : Str),key)]⟩ [(("a" : Str),a),(("x" : Str),x),(("lo" : Str),lo),(("hi" : Str),hi),(("key" : Str),key)]:=by
 refine kc H fun fd T d ⟨p1,p2,p3,p4,p5,g1,g2,g3,hp⟩ hT hd => ?_
 rw [Z1 hp hT hd]
 exact ⟨_,rfl,.inl rfl⟩
end
end
theorem ZL (G : Gl B mg mb) (hl : mg "len" = none ∧ mb "len" = some (.builtin "len")) {f : Addr} {fd : FuncData} (H : zl B mg "bisect_left" WR f fd) {k : Nat} {A : Around} {s : Shared} {M₁ : Addr → Prop} {τ : Type} {P : τ → Prop} {J : Nat → τ → Prop} {μk : τ → List (Addr × D)} {step : τ → D → τ × D} {kf : Addr} {fo : Obj} {kfd : FuncData} {xs : List D} {xd hd : D} {ra : RV} {μa : List (Addr × D)} {va vx vhi : Value} {t : Tok} {args : Args} (lt : D → Bool) (lo hi : Nat) (c₀ : τ)
   (R : Rm A (k + 1)) (X : zS B s.heap) (hold : ∀ a,M₁ a → ∃ o,s.heap.get? a = some o) (hw : ∀ c a x,(a,x) ∈ μk c → M₁ a ∧ B.get? a = none) (hfd : fo.data = .func kfd) (hfo : s.heap.get? kf = some fo) (hfm : ¬ M₁ kf)
   (K : wP prog w k (hideAll s.heap ((μk c₀).map (·.1))) M₁ kf xs P μk step) (hJP : ∀ n c,J n c → P c) (hP : J (hi - lo) c₀) (hPstep : ∀ n c d,J (n + 1) c → d ∈ xs → J n (step c d).1) (hJm : ∀ n m c,m ≤ n → J n c → J m c) (hfst : ∀ c c',(μk c).map (·.1) = (μk c').map (·.1))
   (hp : wg ra μa xs) (hva : zt prog w s.heap M₁ va ra) (hμ : ∀ a d,(a,d) ∈ μa ++ μk c₀ → zd prog w s.heap M₁ a d) (hnd : ((μa ++ μk c₀).map (·.1)).Nodup) (rx : Rp prog w s.heap M₁ vx xd) (rh : Rp prog w s.heap M₁ vhi hd)
   (hb : BindsTo s fd args [("a",va),("x",vx),("lo",.int lo t),("hi",vhi),("key",.ref kf)])
   (hsz : xs.length ≤ 100000) (hhi : (hd = .none ∧ hi = xs.length) ∨ hd = .int hi) (hhl : hi ≤ xs.length) (hcmp : ∀ c d,P c → d ∈ xs → zN prog w .Lt (step c d).2 xd (lt (step c d).2))
   {Q E : Value → Shared → Prop}
   (hQ : ∀ v s',Xj ((μk c₀).map (·.1)) s s' → P (yK (fun c d => ((step c d).1,lt (step c d).2)) xs (hi - lo) lo hi c₀).1 → (∀ a x,(a,x) ∈ μk (yK (fun c d => ((step c d).1,lt (step c d).2)) xs (hi - lo) lo hi c₀).1 → zd prog w s'.heap M₁ a x) →
     Rp prog w s'.heap M₁ v (.int (yK (fun c d => ((step c d).1,lt (step c d).2)) xs (hi - lo) lo hi c₀).2) → Q v s') : wpAny (model prog w) A (PySem.call (.ref f) args.pos args.kw) Q E s:=by
 obtain ⟨o,ho,hd'⟩:=H.get
 have XB:=xg (h:=s.heap) ((μk c₀).map (·.1)) X fun a z => by obtain ⟨⟨a',y⟩,hm,rfl⟩:=mem_map.mp z; exact (hw c₀ a' y hm).2
 have H':=H.ext XB
 have G':=G.ext XB
 refine wpAny_call (VG (M₀:=M₁) (Own₀:=fun a => a ∈ (μk c₀).map (·.1)) (B:=hideAll s.heap ((μk c₀).map (·.1))) (μ₀:=μa ++ μk c₀)
   (ρ₀:=[(ofString "a",ra),(ofString "x",.dat xd),(ofString "lo",.dat (.int lo)),(ofString "hi",.dat hd),(ofString "key",.dat (.ob kf fo))]) H'.ok R (X f o ho) hd' G'.lim (yb _) (zi H.code X) H.body hb (by simp only [map_cons,map_nil]; decide) ?_ hold (fun a z => ?_) (fun x c e => by rw [H.clo] at e; cases e) ?_ hμ hnd ?_)
 · rw [H.scope]; k_extra "kd"
 · obtain ⟨⟨a',y⟩,hm,rfl⟩:=mem_map.mp z
   exact ⟨(hw c₀ a' y hm).1,wU _ z⟩
 · refine all_cons ?_ (all_cons ?_ (all_cons ?_ (all_cons ?_ (all_cons ?_ all_nil))))
   · exact .inl ⟨va,.head _,hva⟩
   · exact .inl ⟨vx,yY,rx⟩
   · exact .inl ⟨.int lo t,wM,.int _ _⟩
   · exact .inl ⟨vhi,qE,rh⟩
   · exact .inl ⟨.ref kf,WH,.ob hfo hfm⟩
 · intro env Own M s₁ R' hO hMM S
   rw [H.scope] at S
   refine wpAny_mono (E:=fun _ _ => False) (Vr G' hl lo hi (R'.le (zero_le _)) hp hsz hhi S fun s₂ S₂ => QY G' lt lo hi c₀ R' hfd K hJP hP hPstep hJm (fun a o m e => (hMM a m).resolve_right fun n => by rw [yb _ a o e] at n; cases n) S₂.more (fun c a x hm => hO a (by rw [hfst c₀ c]; exact mem_map.mpr ⟨_,hm,rfl⟩)) hfst hp hsz hhl hcmp S₂ (Q:=fun fl s' => ∃ v,fl = .ret v ∧ Q v s') fun v s' ρ' S' hP' rv => ⟨v,rfl, ?_⟩) (fun fl s' q => ?_) fun _ _ x => x.elim
   · obtain ⟨h',tk,e⟩:=S'.same
     refine hQ v s' ⟨h',tk,e,fun a o n q => ?_⟩ hP' (fun a x hm => (S'.e.mem a x (mem_append_right _ hm)).to (fun _ e => e) fun b o m e => ⟨e,fun z => m (S'.more b z)⟩) (rv.less S'.more)
     have:=S'.keep a o n q
     rw [e] at this; exact this
   · obtain ⟨v,rfl,q⟩:=q
     exact q
theorem ZI (G : Gl B mg mb) (hl : mg "len" = none ∧ mb "len" = some (.builtin "len")) {f : Addr} {fd : FuncData} (H : zl B mg "bisect_right" Xn f fd) {k : Nat} {A : Around} {s : Shared} {M₁ : Addr → Prop} {τ : Type} {P : τ → Prop} {J : Nat → τ → Prop} {μk : τ → List (Addr × D)} {step : τ → D → τ × D} {kf : Addr} {fo : Obj} {kfd : FuncData} {xs : List D} {xd hd : D} {ra : RV} {μa : List (Addr × D)} {va vx vhi : Value} {t : Tok} {args : Args} (lt : D → Bool) (lo hi : Nat) (c₀ : τ)
   (R : Rm A (k + 1)) (X : zS B s.heap) (hold : ∀ a,M₁ a → ∃ o,s.heap.get? a = some o) (hw : ∀ c a x,(a,x) ∈ μk c → M₁ a ∧ B.get? a = none) (hfd : fo.data = .func kfd) (hfo : s.heap.get? kf = some fo) (hfm : ¬ M₁ kf)
   (K : wP prog w k (hideAll s.heap ((μk c₀).map (·.1))) M₁ kf xs P μk step) (hJP : ∀ n c,J n c → P c) (hP : J (hi - lo) c₀) (hPstep : ∀ n c d,J (n + 1) c → d ∈ xs → J n (step c d).1) (hJm : ∀ n m c,m ≤ n → J n c → J m c) (hfst : ∀ c c',(μk c).map (·.1) = (μk c').map (·.1))
   (hp : wg ra μa xs) (hva : zt prog w s.heap M₁ va ra) (hμ : ∀ a d,(a,d) ∈ μa ++ μk c₀ → zd prog w s.heap M₁ a d) (hnd : ((μa ++ μk c₀).map (·.1)).Nodup) (rx : Rp prog w s.heap M₁ vx xd) (rh : Rp prog w s.heap M₁ vhi hd)
   (hb : BindsTo s fd args [("a",va),("x",vx),("lo",.int lo t),("hi",vhi),("key",.ref kf)])
   (hsz : xs.length ≤ 100000) (hhi : (hd = .none ∧ hi = xs.length) ∨ hd = .int hi) (hhl : hi ≤ xs.length) (hcmp : ∀ c d,P c → d ∈ xs → zN prog w .Lt xd (step c d).2 (lt (step c d).2))
   {Q E : Value → Shared → Prop}
   (hQ : ∀ v s',Xj ((μk c₀).map (·.1)) s s' → P (yK (fun c d => ((step c d).1,!lt (step c d).2)) xs (hi - lo) lo hi c₀).1 → (∀ a x,(a,x) ∈ μk (yK (fun c d => ((step c d).1,!lt (step c d).2)) xs (hi - lo) lo hi c₀).1 → zd prog w s'.heap M₁ a x) →
     Rp prog w s'.heap M₁ v (.int (yK (fun c d => ((step c d).1,!lt (step c d).2)) xs (hi - lo) lo hi c₀).2) → Q v s') : wpAny (model prog w) A (PySem.call (.ref f) args.pos args.kw) Q E s:=by
 obtain ⟨o,ho,hd'⟩:=H.get
 have XB:=xg (h:=s.heap) ((μk c₀).map (·.1)) X fun a z => by obtain ⟨⟨a',y⟩,hm,rfl⟩:=mem_map.mp z; exact (hw c₀ a' y hm).2
 have H':=H.ext XB
 have G':=G.ext XB
 refine wpAny_call (VG (M₀:=M₁) (Own₀:=fun a => a ∈ (μk c₀).map (·.1)) (B:=hideAll s.heap ((μk c₀).map (·.1))) (μ₀:=μa ++ μk c₀)
   (ρ₀:=[(ofString "a",ra),(ofString "x",.dat xd),(ofString "lo",.dat (.int lo)),(ofString "hi",.dat hd),(ofString "key",.dat (.ob kf fo))]) H'.ok R (X f o ho) hd' G'.lim (yb _) (zi H.code X) H.body hb (by simp only [map_cons,map_nil]; decide) ?_ hold (fun a z => ?_) (fun x c e => by rw [H.clo] at e; cases e) ?_ hμ hnd ?_)
 · rw [H.scope]; k_extra "kd"
 · obtain ⟨⟨a',y⟩,hm,rfl⟩:=mem_map.mp z
   exact ⟨(hw c₀ a' y hm).1,wU _ z⟩
 · refine all_cons ?_ (all_cons ?_ (all_cons ?_ (all_cons ?_ (all_cons ?_ all_nil))))
   · exact .inl ⟨va,.head _,hva⟩
   · exact .inl ⟨vx,yY,rx⟩
   · exact .inl ⟨.int lo t,wM,.int _ _⟩
   · exact .inl ⟨vhi,qE,rh⟩
   · exact .inl ⟨.ref kf,WH,.ob hfo hfm⟩
 · intro env Own M s₁ R' hO hMM S
   rw [H.scope] at S
   refine wpAny_mono (E:=fun _ _ => False) (Vx G' hl lo hi (R'.le (zero_le _)) hp hsz hhi S fun s₂ S₂ => Ji G' lt lo hi c₀ R' hfd K hJP hP hPstep hJm (fun a o m e => (hMM a m).resolve_right fun n => by rw [yb _ a o e] at n; cases n) S₂.more (fun c a x hm => hO a (by rw [hfst c₀ c]; exact mem_map.mpr ⟨_,hm,rfl⟩)) hfst hp hsz hhl hcmp S₂ (Q:=fun fl s' => ∃ v,fl = .ret v ∧ Q v s') fun v s' ρ' S' hP' rv => ⟨v,rfl, ?_⟩) (fun fl s' q => ?_) fun _ _ x => x.elim
   · obtain ⟨h',tk,e⟩:=S'.same
     refine hQ v s' ⟨h',tk,e,fun a o n q => ?_⟩ hP' (fun a x hm => (S'.e.mem a x (mem_append_right _ hm)).to (fun _ e => e) fun b o m e => ⟨e,fun z => m (S'.more b z)⟩) (rv.less S'.more)
     have:=S'.keep a o n q
     rw [e] at this; exact this
   · obtain ⟨v,rfl,q⟩:=q
     exact q
theorem jq.ext {h h' : Heap} {fd : FuncData} {t0 : Tok} (H : jq h fd t0) (X : zS h h') : jq h' fd t0:=by
 refine ⟨H.par, ?_, ?_⟩
 · obtain ⟨T,o,n,h1,h2,h3⟩:=H.dfl; exact ⟨T,o,n,h1,X _ _ h2,h3⟩
 · obtain ⟨d,m,h1,h2,h3⟩:=H.kwd; exact ⟨d,m,h1,h2.keeps X,h3⟩
noncomputable def jb (le : D → Bool) (xs : List D) : Nat:=(yK (fun (c : Unit) d => (c,le d)) xs (xs.length - 0) 0 xs.length ()).2
noncomputable def XI (le : D → Bool) (xs : List D) (x : D) : List D:=xs.take (jb le xs) ++ x :: xs.drop (jb le xs)
theorem YG {τ : Type} (go : τ → D → τ × Bool) (xs : List D) : ∀ (n lo hi : Nat) (c : τ),lo ≤ hi → (yK go xs n lo hi c).2 ≤ hi
 | 0,lo,hi,c,h => h
 | n + 1,lo,hi,c,h => by
  simp only [w9,wx]
  split
  · split
    · exact YG go xs n _ _ _ (by k_extra "o")
    · exact le_trans (YG go xs n _ _ _ (by k_extra "o")) (by k_extra "o")
  · exact h
theorem Q4 (le : D → Bool) (xs : List D) : jb le xs ≤ xs.length:=YG _ _ _ _ _ _ (zero_le _)
structure Jk (B : Heap) (mg mb : Str → Option Value) : Prop where
 G : Gl B mg mb
 len : mg "len" = none ∧ mb "len" = some (.builtin "len")
 ins : ∃ f fd t,zl B mg "insort_right" KA f fd ∧ jq B fd t
 right : ∃ f fd t,zl B mg "bisect_right" Xn f fd ∧ jq B fd t
 left : ∃ f fd t,zl B mg "bisect_left" WR f fd ∧ jq B fd t
theorem Jk.ext {B' : Heap} (H : Jk B mg mb) (X : zS B B') : Jk B' mg mb:=by
 refine ⟨H.G.ext X,H.len, ?_, ?_, ?_⟩
 · obtain ⟨f,fd,t,h1,h2⟩:=H.ins; exact ⟨f,fd,t,h1.ext X,h2.ext X⟩
 · obtain ⟨f,fd,t,h1,h2⟩:=H.right; exact ⟨f,fd,t,h1.ext X,h2.ext X⟩
 · obtain ⟨f,fd,t,h1,h2⟩:=H.left; exact ⟨f,fd,t,h1.ext X,h2.ext X⟩
theorem YS (H : Jk B mg mb) {f : Addr} {fd : FuncData} {t : Tok} (HI : zl B mg "insort_right" KA f fd) (BI : jq B fd t) {k : Nat} {A : Around} {s : Shared} {M₁ : Addr → Prop} {step : D → D} {kf : Addr} {fo : Obj} {kfd : FuncData} {xs ys : List D} {xd : D} {L : Addr} {vx : Value} (lt : D → Bool)
   (R : Rm A (k + 2)) (X : zS B s.heap) (hold : ∀ a,M₁ a → ∃ o,s.heap.get? a = some o) (hL : M₁ L) (hLB : B.get? L = none) (hfd : fo.data = .func kfd) (hfo : s.heap.get? kf = some fo) (hfm : ¬ M₁ kf)
   (K : wP prog w k (hideAll s.heap [L]) M₁ kf ys (fun _ : Unit => True) (fun _ => []) (fun c d => (c,step d))) (hxs : ∀ d ∈ xs,d ∈ ys) (hxd : xd ∈ ys)
   (hμ : zd prog w s.heap M₁ L (.list xs)) (rx : Rp prog w s.heap M₁ vx xd) (hsz : xs.length ≤ 100000) (hcmp : ∀ d,d ∈ xs → zN prog w .Lt (step xd) (step d) (lt (step d)))
   {Q E : Value → Shared → Prop}
   (hQ : ∀ s',Xj [L] s s' → zd prog w s'.heap M₁ L (.list (XI (fun d => !lt (step d)) xs xd)) → Q .none s') : wpAny (model prog w) A (PySem.call (.ref f) [.ref L,vx] [("key",.ref kf)]) Q E s:=by
 obtain ⟨o,ho,hd'⟩:=HI.get
 have XB : zS B (hideAll s.heap [L]):=xg (h:=s.heap) [L] X fun a z => by cases mem_singleton.mp z; exact hLB
 have H':=H.ext XB
 obtain ⟨rf,rfd,rt,HR,BR⟩:=H'.right
 have hN : ∀ a,a ∉ [L] → ∀ o,s.heap.get? a = some o → (hideAll s.heap [L]).get? a = some o:=fun a n o e => hideAll_get _ e n
 refine wpAny_call (VG (M₀:=M₁) (Own₀:=fun a => a = L) (B:=hideAll s.heap [L]) (μ₀:=[(L,.list xs)])
   (ρ₀:=[(ofString "a",.adr L),(ofString "x",.dat xd),(ofString "lo",.dat (.int 0)),(ofString "hi",.dat .none),(ofString "key",.dat (.ob kf fo))]) HI.ok R (X f o ho) hd' H'.G.lim (yb _) (zi HI.code X) HI.body (Zd (BI.ext X) (.ref L) vx (.ref kf)) (by simp only [map_cons,map_nil]; decide) ?_ hold (fun a z => ?_) (fun x c e => by rw [HI.clo] at e; cases e) ?_ (fun a d hm => ?_) (by simp) ?_)
 · rw [HI.scope]; k_extra "kd"
 · subst z; exact ⟨hL,wU _ (by simp)⟩
 · refine all_cons ?_ (all_cons ?_ (all_cons ?_ (all_cons ?_ (all_cons ?_ all_nil))))
   · exact .inl ⟨.ref L,.head _,rfl⟩
   · exact .inl ⟨vx,yY,rx⟩
   · exact .inl ⟨.int 0 t,wM,.int _ _⟩
   · exact .inl ⟨.none,qE,.none⟩
   · exact .inl ⟨.ref kf,WH,.ob hfo hfm⟩
 · cases mem_singleton.mp hm; exact hμ
 · intro env Own M s₁ R' hO hMM S
   rw [HI.scope] at S
   have R0 : Rm (A.deeper env) 0:=R'.le (zero_le _)
   have Rk : Rm (A.deeper env) k:=R'.le (le_succ _)
   refine wpAny_mono (E:=fun _ _ => False) (Q:=fun fl s' => fl = .next ∧ Q .none s') ?_ (fun fl s' q => by obtain ⟨rfl,q⟩:=q; exact q) fun _ _ x => x.elim
   have G:=H'.G
   k_extra "if"
   show wpAny _ _ (execs (if false = true then _ else _) env) _ _ _
   simp only [false_eq_true,if_false]
   have hMb : ∀ a o,M a → (hideAll s.heap [L]).get? a = some o → M₁ a:=fun a o m e => (hMM a m).resolve_right fun n => by rw [yb _ a o e] at n; cases n
   refine' vV (s₀:=s) (Own₀:=fun a => a = L) (M₀:=M₁) (B:=hideAll s.heap [L]) (names:=(zR KA).names) ?g1 ?g2 ?g3
   case g1 => rfl
   case g2 => k_extra "kd"
   refine' jO (f:=.ref rf) (rs:=[.adr L,.dat (step xd),.dat (.int 0),.dat .none]) S.e ?gf ?gk ?gx ?ge ?gq
   case ge => exact rfl
   case gf => k_extra "z"
   case gk => exact HR.keepy
   case gx =>
     refine .cons (Ev.var S.e ?x1 ?x2) (.cons (r:=.dat (step xd)) (Ev.key S.e Rk (x:=ofString "key") ?y1 ?y2 hfd (fun _ => rfl) ?y3 hxd K hMb S.more) (.cons (r:=.dat (.int 0)) ?z1 (.cons (r:=.dat .none) ?z2 .nil fun _ => rfl) fun _ => rfl) fun _ => rfl) fun _ => rfl
     case x1 => k_extra "mem"
     case x2 => k_extra "kd"
     case y1 => k_extra "mem"
     case y2 => k_extra "kd"
     case y3 | z1 | z2 => k_extra "z"
   case gq =>
     intro vs s₂ k₂ rs
     have S₂:=S.step k₂
     refine Ev.var S₂.e (x:=ofString "key") (r:=.dat (.ob kf fo)) ?v1 ?v2 s₂ _ _ (zS.refl _) fun kv s₃ k₃ rk => ?_
     case v1 => k_extra "mem"
     case v2 => k_extra "kd"
     obtain ⟨rfl,ek,mk⟩:=Rp.ob_inv rk
     have S₃:=S₂.step k₃
     have X₃:=S₃.e.base
     refine ⟨X₃, ?_⟩
     refine zP.use4 rs fun v1 v2 v3 v4 r1 r2 r3 r4 => ?_
     have r1 : v1 = .ref L:=r1
     subst r1
     obtain ⟨t3,rfl⟩:=Rp.int_inv r3
     obtain rfl:=Rp.none_inv r4
     refine ZI (τ:=Unit) (P:=fun _ => True) (J:=fun _ _ => True) (μk:=fun _ => []) (step:=fun c d => (c,step d)) (args:=⟨[.ref L,v2,.int 0 t3,.none],[("key",.ref kf)]⟩) (ra:=.adr L) (μa:=[(L,.list xs)]) (xd:=step xd) G H'.len HR lt 0 xs.length () R' X₃ S₃.e.old (fun _ _ _ hm => by cases hm) hfd ek mk ?bk (fun _ _ _ => trivial) trivial (fun _ _ _ _ _ => trivial) (fun _ _ _ _ _ => trivial) (fun _ _ => rfl) (.inr ⟨L,rfl,rfl⟩) rfl
      (fun a d hm => S₃.e.mem a d (by simpa using hm)) (by simp) (Rp.ext (ke k₃) r2) .none (Vh (BR.ext X₃) (.ref L) v2 (.int 0 t3) .none (.ref kf)) hsz (.inl ⟨rfl,rfl⟩) (le_refl _) (fun _ d _ hd => hcmp d hd) ?bq
     case bk =>
      refine K.base (fun a o e => hideAll_get _ (X₃ a o e) (by simp)) (fun a o m e => hMb a o m e) S₃.more hxs
     case bq =>
      intro v s₄ ef _ _ rv
      have k₄ : Keeps s₃ s₄:=by obtain ⟨h',tk,rfl,kk⟩:=ef; exact ⟨h',tk,rfl,fun a o e => kk a o (by simp) e⟩
      refine ⟨_,_,_,_,.dat _,S₃.step k₄,rv, ?_⟩
      have hi : (yK (fun (c : Unit) d => (c,!lt (step d))) xs (xs.length - 0) 0 xs.length ()).2 = jb (fun d => !lt (step d)) xs:=rfl
      rw [hi]
      clear S S₂ S₃
      intro s' S
      refine zD ?_
      show wpAny _ _ (execs (_ :: []) env) _ _ _
      refine' wm (pre:=[]) S R0 ?m1 ?m2 rfl (hO _ rfl) rfl ?m3 ?m4 ?m5 (ds:=[.int (jb (fun d => !lt (step d)) xs),xd]) ?m6 (by decide) (by rfl) (wI.insert xs (jb (fun d => !lt (step d)) xs) _ xd rfl (Q4 _ _) (by rw [sizeLine_eq]; k_extra "o")) ?m7
      case m1 => k_extra "mem"
      case m2 => k_extra "kd"
      case m3 => k_extra "pa"
      case m4 => k_extra "slot"
      case m5 => k_extra "mty"
      case m6 => k_extra "z"
      case m7 =>
       intro s'' S''
       refine zD ⟨rfl,hQ s'' ?_ ?_⟩
       · obtain ⟨h',tk,e⟩:=S''.same
         refine ⟨h',tk,e,fun a o n q => ?_⟩
         have:=S''.keep a o (by simpa using n) q
         rw [e] at this; exact this
       · exact (S''.e.mem L _ (.head _)).to (fun _ e => e) fun b o m e => ⟨e,fun z => m (S''.more b z)⟩
noncomputable def xu (n : Int) : Int:=b2i (decide (63 < n)) + b2i (decide (4095 < n)) + if decide (262143 < n) = true then 1 else 0
noncomputable def Yn (n : Int) : List Int:=vJ (xu n) (-1) (-1)
theorem wq (n : Int) : 0 ≤ xu n ∧ xu n ≤ 3:=by
 unfold xu
 cases decide (63 < n) <;> cases decide (4095 < n) <;> cases decide (262143 < n) <;> simp [b2i]
theorem Yd (n : Int) : Builtin.Range.small (xu n) (-1) (-1) = true:=by
 have:=wq n
 exact PySem.W.small_down (by k_extra "o") (by k_extra "o") (by k_extra "o") (by k_extra "o")
theorem Yl (n : Int) : ∀ k ∈ Yn n,0 ≤ k ∧ k ≤ 3:=by
 have h:=wq n
 have : ∀ t : Fin 4,∀ k ∈ vJ (t : Nat) (-1) (-1),0 ≤ k ∧ k ≤ 3:=by decide
 obtain ⟨t,ht⟩ : ∃ t : Nat,xu n = t:=⟨(xu n).toNat,by k_extra "o"⟩
 have:=this ⟨t,by k_extra "o"⟩
 rw [Yn,ht]; exact this
theorem Qn (n : Int) : (Yn n).length ≤ 4:=by
 have h:=wq n
 have : ∀ t : Fin 4,(vJ (t : Nat) (-1) (-1)).length ≤ 4:=by decide
 obtain ⟨t,ht⟩ : ∃ t : Nat,xu n = t:=⟨(xu n).toNat,by k_extra "o"⟩
 have:=this ⟨t,by k_extra "o"⟩
 rw [Yn,ht]; exact this
noncomputable def ZM (n : Int) : List Int :=
 (Yn n).map fun k =>
  Builtin.bitAnd (n.fdiv (2 ^ (6 * k).toNat)) 63 + 64 * (if decide (0 < k) = true then 1 else 0) + 128 * (if (k.fmod 2 == 0) = true then 1 else 0)
theorem JJ (G : Gl B mg mb) (hr : mg "range" = none ∧ mb "range" = some (.type "range")) (n : Int) (hn : 0 ≤ n) :
  vN prog w 0 B (yF pw 20) [ofString "number"] [.int n] (.list ((ZM n).map .int)):=by
 intro A s M₀ env Own M s₁ R X S
 simp only [zip_cons_cons,map_cons,map_nil,zip_nil_right] at S
 refine' z7 S ?qa ?qb ?qc ?qd
 case qb => k_extra "kd"
 case qc => rfl
 case qa => k_extra "z"
 intro s₂ S₂
 have hk0 : ∀ k ∈ Yn n,0 ≤ k ∧ k ≤ 3:=Yl n
 have hsm : Builtin.Range.small (xu n) (-1) (-1) = true:=Yd n
 refine' YE S₂ ?qa ?qb
 case qa =>
  refine' Ev.comp1 S₂.e R ?qc ?qi ?ys ?qg ?qs ?qf ?qx ?qz ?qh ?qt
  case qc => k_extra "kd"
  case qi | qs => k_extra "z"
  case qx => k_extra "kd"
  case qh => intro _; rfl
  case qz => exact le_trans (Qn n) (by decide)
  case qt =>
   intro k hk env' h' M' X hE
   have hkk:=hk0 k hk
   k_extra "z"
 exact congrArg D.list (by rw [ZM,map_map]; rfl)
noncomputable def xF (got : Str) : List Str → Int → Int → Bool
 | [],_,_ => true
 | w :: ws,st,en => let p:=kA got w st en; if p < 0 then false else xF got ws (p + w.length) en
noncomputable def yh (got : Str) (ws : List Str) (st en : Int) : Bool:=if st > en then false else xF got ws st en
noncomputable def xD (got : Str) (ws : List Str) (st : Int) : Bool :=
 let w:=ws.getLastD empty
 if w.length ≠ 0 then (if 0 + w.length ≤ got.length && Builtin.Str.subAt got w (got.length - w.length) then yh got ws.dropLast st (got.length - w.length) else false) else yh got ws st got.length
noncomputable def v6 (want got : Str) : Bool :=
 if inS zX want then
  let ws:=zz want zX
  let w:=ws.headD empty
  if w.length ≠ 0 then (if 0 + w.length ≤ got.length && Builtin.Str.subAt got w 0 then xD got ws.tail w.length else false) else xD got ws 0
 else want == got
noncomputable abbrev wR:=(zR YL).names
theorem zBd (G : Gl B mg mb) (hl : mg "len" = none ∧ mb "len" = some (.builtin "len")) {A : Around} {s s₁ : Shared} {M₀ Own M : Addr → Prop} {env : Env} (got : Str) (ws : List Str) (st en : Int) (R : Rm A 0) (h4 : ws.length ≤ 1000) (h5 : ∀ x ∈ ws,x.length ≤ 1000)
   (S : St prog w B s (fun _ => False) M₀ wR env Own M [(ofString "got",.dat (.str got)),(ofString "ws",.dat (.list (ws.map .str))),(ofString "startpos",.dat (.int st)),(ofString "endpos",.dat (.int en))] [] s₁) :
   wpAny (model prog w) A (execs ((zB YL).drop 8) env) (xJ prog w B s (fun _ => False) M₀ wR env (.bool (yh got ws st en))) (fun _ _ => False) s₁:=by
 k_extra "if"
 by_cases h : en < st
 · rw [decide_eq_true h]
   refine' jN (r:=.bool (yh got ws st en)) S ?qa ?qb ?qc
   case qa => k_extra "z"
   case qb => rw [yh,if_pos h]
   case qc => exact fun v s' x => x
 rw [decide_eq_false h]
 refine zD ?_
 show wpAny (model prog w) A (execs ((zB YL).drop 9) env) _ _ _
 refine' xP (α:=Str) (σ:=Int) S R ?qv ws .str ?src (fun y => [(ofString "w",.dat (.str y))]) ?asg ?fs (fun c => [(ofString "startpos",.dat (.int c)),(ofString "got",.dat (.str got)),(ofString "endpos",.dat (.int en))]) (fun _ => [])
   (fun i c => xF got ws st en = xF got (ws.drop i) c en) (fun f _ _ => f = .ret (.bool false) ∧ yh got ws st en = false) st ?qp ?rho rfl ?off ?turn ?done ?exit
 case qv => k_extra "z"
 case src => exact .list _
 case asg => exact fun y _ => wu.name (by k_extra "kd")
 case fs => k_extra "fs"
 case qp => rfl
 case rho => intro x r hm; simp only [mem_cons,not_mem_nil,or_false] at hm ⊢; rcases hm with h | h | h <;> simp [h]
 case off => intro c y; k_extra "kd"
 case turn =>
   clear S
   intro i y c M' s₁ hy hP hMM S
   have hyl : y.length ≤ 1000:=h5 y (mem_of_getElem? hy)
   have hd : ws.drop i = y :: ws.drop (i + 1):=by
     obtain ⟨hi,e⟩:=List.getElem?_eq_some_iff.mp hy
     rw [List.drop_eq_getElem_cons hi,e]
   k_extra "set"
   k_extra "if"
   by_cases h0 : kA got y c en < 0
   · rw [decide_eq_true h0]
     refine' xO S ?qa ?qb
     case qa => k_extra "z"
     case qb =>
      intro v s' S' r
      refine ⟨kA got y c en,_,_,S'.sub ?_, ?_⟩
      · intro x r hm; simp only [mem_cons,not_mem_nil,or_false] at hm; rcases hm with h | h | h <;> (cases h; k_extra "mem")
      · refine ⟨by rw [r.bool_inv], ?_⟩
        rw [yh,if_neg h,hP,hd,xF]; simp [h0]
   rw [decide_eq_false h0]
   refine zD ?_
   show wpAny _ _ _ _ _ _
   k_extra "aug"
   refine zD ?_
   refine ⟨kA got y c en + y.length,_,_,S.sub ?_, ?_⟩
   · intro x r hm; simp only [mem_cons,not_mem_nil,or_false] at hm; rcases hm with h | h | h <;> (cases h; k_extra "mem")
   · show xF got ws st en = _
     rw [hP,hd,xF]; simp [h0]
 case done =>
   clear S
   intro c s' hP S
   refine zD ?_
   refine' jN (r:=.bool (yh got ws st en)) S ?qa ?qb ?qc
   case qa => k_extra "z"
   case qb => rw [yh,if_neg h,hP,List.drop_length]; rfl
   case qc => exact fun v s' x => x
 case exit =>
   rintro f c s' ⟨rfl,e⟩ S'
   exact xJ.mk S' (by rw [e]; exact .bool _)
theorem Kx (G : Gl B mg mb) (hl : mg "len" = none ∧ mb "len" = some (.builtin "len")) {A : Around} {s s₁ : Shared} {M₀ Own M : Addr → Prop} {env : Env} {a : Addr} (got : Str) (ws : List Str) (st : Int) (R : Rm A 0) (h2 : got.length ≤ 1000) (h4 : ws.length ≤ 1000) (h4' : 1 ≤ ws.length) (h5 : ∀ x ∈ ws,x.length ≤ 1000)
   (na : ¬ M a) (hO : ∀ b,Own b → M b) (hm : ∀ b,M₀ b → M b)
   (S : St prog w B s (fun _ => False) M₀ wR env (fun b => Own b ∨ b = a) (fun b => M b ∨ b = a) [(ofString "got",.dat (.str got)),(ofString "ws",.adr a),(ofString "startpos",.dat (.int st)),(ofString "endpos",.dat (.int got.length))] [(a,.list (ws.map .str))] s₁) :
   wpAny (model prog w) A (execs ((zB YL).drop 6) env) (xJ prog w B s (fun _ => False) M₀ wR env (.bool (xD got ws st))) (fun _ _ => False) s₁:=by
 obtain ⟨wl,hwl⟩ : ∃ wl,ws[ws.length - 1]? = some wl:=⟨ws[ws.length - 1],getElem?_eq_getElem (Nat.sub_lt h4' (by decide))⟩
 have hlast : ws.getLastD empty = wl:=by rw [List.getLastD_eq_getLast?,List.getLast?_eq_getElem?,hwl]; rfl
 have hwm : wl.length ≤ 1000:=h5 wl (mem_of_getElem? hwl)
 have fin : ∀ (ws' : List Str) (en : Int) {s₂ : Shared} {ρ : List (Str × RV)},(∀ x ∈ ws',x ∈ ws) → ws'.length ≤ 1000 → xD got ws st = yh got ws' st en → (ofString "got",RV.dat (.str got)) ∈ ρ → (ofString "ws",RV.adr a) ∈ ρ → (ofString "startpos",RV.dat (.int st)) ∈ ρ → (ofString "endpos",RV.dat (.int en)) ∈ ρ →
     St prog w B s (fun _ => False) M₀ wR env (fun b => Own b ∨ b = a) (fun b => M b ∨ b = a) ρ [(a,.list (ws'.map .str))] s₂ →
     wpAny (model prog w) A (execs ((zB YL).drop 8) env) (xJ prog w B s (fun _ => False) M₀ wR env (.bool (xD got ws st))) (fun _ _ => False) s₂:=by
   intro ws' en s₂ ρ hin hlen he g1 g2 g3 g4 S₂
   have S₃:=S₂.freeze1 g2 na hO hm (fun _ f => f.elim)
   rw [he]
   refine zBd G hl got ws' st en R hlen (fun x hx => h5 x (hin x hx)) (S₃.sub ?_)
   refine all_cons ?_ (all_cons ?_ (all_cons ?_ (all_cons ?_ all_nil)))
   · exact .tail _ g1
   · exact .head _
   · exact .tail _ g3
   · exact .tail _ g4
 refine' z7 S ?sA ?sB ?sC ?sD
 case sB => k_extra "kd"
 case sC => rfl
 case sA =>
   refine' Ev.itemNeg (d:=.str wl) (i:=-1) (xs:=ws.map .str) ?qv ?qi (by decide) ?qb (by decide) ?qd
   case qv | qi => k_extra "z"
   case qb => simp; k_extra "o"
   case qd => rw [length_map,getElem?_map,zBm h4',hwl]; rfl
 k_extra "next"
 k_extra "if"
 by_cases hw : wl.length = 0
 · rw [show ((wl.length : Int) != 0) = false by simp [hw]]
   refine zD ?_
   exact fin ws got.length (fun _ h => h) h4 (by simp only [xD,hlast,hw,ne_eq,not_true,if_false]) (by k_extra "mem") (by k_extra "mem") (by k_extra "mem") (by k_extra "mem") S
 rw [show ((wl.length : Int) != 0) = true by simp [hw]]
 k_extra "if"
 cases hc : (decide (0 + wl.length ≤ got.length) && Builtin.Str.subAt got wl (got.length - wl.length))
 · refine' jN (r:=.bool (xD got ws st)) S ?qa ?qb ?qc
   case qa => k_extra "z"
   case qb => simp only [xD,hlast]; rw [if_pos hw,hc]; rfl
   case qc => exact fun v s' x => x
 show wpAny _ _ (execs (if true = true then _ else _) env) _ _ _
 simp only [if_true]
 k_extra "aug"
 refine' kF (pre:=[]) (i:=ws.length - 1) (I:=-1) S ?dM ?dN ?dH ?dO ?dI ?dJ ?dF ?dZ ?dD
 case dM => k_extra "mem"
 case dN => k_extra "kd"
 case dH => rfl
 case dO | dI => k_extra "z"
 case dJ => rw [length_map]; exact KL h4'
 case dF => decide
 case dZ => rw [length_map,sizeLine_eq]; k_extra "o"
 k_extra "next"
 refine zD (zD ?_)
 have e : (ws.map D.str).eraseIdx (ws.length - 1) = ws.dropLast.map D.str:=by
   rw [List.dropLast_eq_take,List.map_take,List.eraseIdx_eq_take_drop_succ,List.drop_of_length_le (by simp; k_extra "o"),append_nil]
 simp only [nil_append,e] at S
 exact fin ws.dropLast (got.length - wl.length) (fun _ h => (List.dropLast_sublist _).mem h) (by simp; k_extra "o") (by simp only [xD,hlast]; rw [if_pos hw,hc]; rfl) (by k_extra "mem") (by k_extra "mem") (by k_extra "mem") (by k_extra "mem") S
theorem QX (G : Gl B mg mb) (hl : mg "len" = none ∧ mb "len" = some (.builtin "len")) (hm : ∃ t,mg "ELLIPSIS_MARKER" = some (.str zX t)) (want got : Str)
   (h1 : want.length ≤ 1000) (h2 : got.length ≤ 1000) (h3 : 2 ≤ (zz want zX).length ∨ inS zX want = false) (h4 : (zz want zX).length ≤ 1000) (h5 : ∀ x ∈ zz want zX,x.length ≤ 1000) :
   vN prog w 0 B YL [ofString "want",ofString "got"] [.str want,.str got] (.bool (v6 want got)):=by
 obtain ⟨t,hm⟩:=hm
 intro A s M₀ env Own M s₁ R X S
 simp only [zip_cons_cons,map_cons,map_nil,zip_nil_right] at S
 k_extra "if"
 cases hc : inS zX want
 · refine' jN (r:=.bool (v6 want got)) S ?qa ?qb ?qc
   case qa => k_extra "z"
   case qb => rw [v6,hc]; rfl
   case qc => exact fun v s' x => x
 show wpAny _ _ (execs (if false = true then _ else _) env) _ _ _
 simp only [false_eq_true,if_false]
 refine zD ?_
 have h3' : 2 ≤ (zz want zX).length:=h3.resolve_right (by simp [hc])
 have hm0 : ∀ b,M₀ b → M b:=S.more
 have hO0 : ∀ b,Own b → M b:=S.own
 refine' wC S ?nA ?nB ?nC ?nD
 case nB => k_extra "kd"
 case nC => rfl
 case nA =>
   refine' kK.meth ?S ?R ?qo ?T ?qp ?qs ?qt ?qx ?qb ?qf ?ql ?qc
   case S => k_extra "S"
   case R | qo => k_extra "z"
   case T => rfl
   case qp => k_extra "pa"
   case qs => exact F.slot_str_split
   case qt => exact F.type_str_split
   case qx => k_extra "z"
   case qb => rfl
   case qf => decide
   case ql => rfl
   case qc => exact Wb.split want zX (by decide) (by rw [sizeLine_eq]; k_extra "o") (by rw [sizeLine_eq]; k_extra "o")
 clear S
 intro a s' na S
 k_extra "assert"
 refine' Wu S R [(ofString "startpos",_),(ofString "endpos",_)] rfl (els:=[.dat (.int 0),.dat (.int got.length)]) ?tX (by decide) ?tK rfl (by simp) ?tW ?tD
 case tX => k_extra "z"
 case tK => k_extra "kd"
 case tW => exact ZD [(ofString "startpos",_),(ofString "endpos",_)] (by decide)
 k_extra "next"
 k_extra "flat"
 generalize hws : zz want zX = ws at *
 obtain ⟨wf,hwf⟩ : ∃ wf,ws[0]? = some wf:=⟨ws[0],getElem?_eq_getElem (by k_extra "o")⟩
 have hfirst : ws.headD empty = wf:=by rw [List.headD_eq_head?_getD,List.head?_eq_getElem?,hwf]; rfl
 have hwm : wf.length ≤ 1000:=h5 wf (mem_of_getElem? hwf)
 have hM : v6 want got = if wf.length ≠ 0 then (if 0 + wf.length ≤ got.length && Builtin.Str.subAt got wf 0 then xD got ws.tail wf.length else false) else xD got ws 0:=by
   rw [v6,if_pos hc,hws]; simp only [hfirst]
 refine' z7 S ?sA ?sB ?sC ?sD
 case sB => k_extra "kd"
 case sC => rfl
 case sA =>
   refine' Ev.item (d:=.str wf) (i:=0) (xs:=ws.map .str) ?qv ?qi (by decide) (by decide) ?qd
   case qv | qi => k_extra "z"
   case qd => rw [getElem?_map,show (0 : Int).toNat = 0 from rfl,hwf]; rfl
 k_extra "next"
 k_extra "if"
 by_cases hw : wf.length = 0
 · rw [show ((wf.length : Int) != 0) = false by simp [hw]]
   refine zD ?_
   rw [hM,if_neg (by simp [hw])]
   exact Kx G hl got ws 0 R h2 h4 (by k_extra "o") h5 na hO0 hm0 (S.sub (by k_extra "sub"))
 rw [show ((wf.length : Int) != 0) = true by simp [hw]]
 k_extra "if"
 cases hc2 : (decide (0 + wf.length ≤ got.length) && Builtin.Str.subAt got wf 0)
 · refine' jN (r:=.bool (v6 want got)) S ?qa ?qb ?qc
   case qa => k_extra "z"
   case qb => rw [hM,if_pos hw,hc2]; rfl
   case qc => exact fun v s' x => x
 show wpAny _ _ (execs (if true = true then _ else _) env) _ _ _
 simp only [if_true]
 k_extra "set"
 refine' kF (pre:=[]) (i:=0) (I:=0) S ?dM ?dN ?dH ?dO ?dI ?dJ ?dF ?dZ ?dD
 case dM => k_extra "mem"
 case dN => k_extra "kd"
 case dH => rfl
 case dO | dI => k_extra "z"
 case dJ => rw [length_map]; exact zBj (k:=0) (by k_extra "o")
 case dF => decide
 case dZ => rw [length_map,sizeLine_eq]; k_extra "o"
 k_extra "next"
 refine zD (zD ?_)
 have e : (ws.map D.str).eraseIdx 0 = ws.tail.map D.str:=by cases ws <;> rfl
 simp only [nil_append,e] at S
 rw [hM,if_pos hw,hc2]
 exact Kx G hl got ws.tail wf.length R h2 (by simp; k_extra "o") (by simp; k_extra "o") (fun x hx => h5 x (List.mem_of_mem_tail hx)) na hO0 hm0 (S.sub (by k_extra "sub"))
noncomputable abbrev Wh:=(zR flS).names
noncomputable def VK : List (PyData × PyData):=jB.map fun p => (.int p.1,.str p.2)
noncomputable def vo (i : Int) : Str:=baseText "0x" 16 i
noncomputable def wK (f : Int) : Str:=(jB.lookup f).getD (vo f)
theorem Zc (a b : Int) : Spec.same (.int a) (.int b) = decide (a = b):=by
 show (a == b) = decide (a = b)
 by_cases h : a = b <;> simp [h]
theorem VT (f : Int) : (Spec.lookup (.int f) VK).getD (.str (vo f)) = .str (wK f):=by
 have : ∀ T : List (Int × Str),(Spec.lookup (.int f) (T.map fun p => (PyData.int p.1,PyData.str p.2))).getD (.str (vo f)) = .str ((T.lookup f).getD (vo f)):=by
  intro T
  induction T with
  | nil => rfl
  | cons p T ih =>
   simp only [map_cons,Spec.lookup,Zc,List.lookup]
   by_cases h : p.1 = f
   · have h' : (f == p.1) = true:=by simp [h]
     simp [h]
   · have h' : (f == p.1) = false:=by simp; exact fun e => h e.symm
     simp [h,h',ih]
 exact this jB
noncomputable def vQ : Nat → Nat → Int → List Str → Option (List Str)
 | 0,_,fl,ns => if (vo fl).length ≤ sizeLine then some (ns ++ [vo fl]) else none
 | m + 1,i,fl,ns =>
  let f : Int:=1 * 2 ^ i
  if Builtin.bitAnd fl f != 0 then
   (if (vo f).length ≤ sizeLine then (if Builtin.bitXor fl f != 0 then vQ m (i + 1) (Builtin.bitXor fl f) (ns ++ [wK f]) else some (ns ++ [wK f])) else none)
  else vQ m (i + 1) fl ns
noncomputable abbrev wz : Str:=ofString ", "
theorem Xi {i : Nat} {y n : Int} (h : (vJ 0 n 1)[i]? = some y) : y = i:=by
 simp only [vJ,getElem?_map] at h
 cases e : (List.range (Builtin.Range.rangeSize 0 n 1).toNat)[i]? with
 | none => rw [e] at h; cases h
 | some j =>
  rw [e] at h
  have:=List.getElem?_eq_some_iff.mp e
  obtain ⟨_,q⟩:=this
  simp at q h
  k_extra "o"
theorem QL {K : Type} [DecidableEq K] {knd : KeyKind prog w K} {enc : K → PyData} {h h' : Heap} {d : Addr} {D : List (PyData × PyData)} (X : zS h h') (T : TabAt knd enc h d D) : TabAt knd enc h' d D:=by
 obtain ⟨lo,kvs,hd,hf⟩:=T
 exact ⟨lo,kvs,jJ hd fun o e => X _ _ e,hf⟩
theorem Jr {A : Around} {h : Heap} {M : Addr → Prop} {names : zE} {env : Env} {ρ : List (Str × RV)} {μ : List (Addr × D)} (S : En prog w B names env h M ρ μ) (R : Rm A 0) {fa : Addr} {o : Expr} {apos pos : Pos} {es : List Expr} {f : Int}
  (ho : Ev prog w A h o env (fun _ u => u = .ref fa)) (T : TabAt (PySem.intKind prog w) PyData.int B fa VK) (hx : yy prog w A h env M es [.int f,.str (vo f)]) (hbase : attributeBase o "get" env (eval o env) = eval o env) (hfew : decide (es.length + 0 + 0 < 30) = true) (hline : (apos.endLine == pos.line) = true) :
  Ev prog w A h (.Call (.Attribute o "get" apos) es [] pos) env (PS prog w M (.str (wK f))):=by
 have T':=T
 obtain ⟨lo,kvs,hd,hf⟩:=T'
 obtain ⟨ob,es',ep,hob,hc,hd',hr⟩:=hd
 refine Ev.methO S R (ho:=ho) hob hc.1 hc.2.1 F.plainAttrs_dict F.slot_dict_get F.type_dict_get hx hbase hfew hline fun A M s E Q vs R X old rs hQ => ?_
 obtain ⟨v,u,rfl,r1,r2⟩:=rs.two_inv
 obtain ⟨t,rfl⟩:=r1.int_inv; obtain ⟨t2,rfl⟩:=r2.str_inv
 refine call_get2_tab (knd:=PySem.intKind prog w) (enc:=PyData.int) Zc (k:=f) (PySem.intKind_is prog w f t) (QL X T) (.str _ _) fun v fv => ?_
 rw [VT] at fv
 cases fv s.heap
 exact hQ _ _ (zL s _) (.str _ _)
theorem WE (G : Gl B mg mb) (hr : mg "range" = none ∧ mb "range" = some (.type "range")) (hh : mg "hex" = none ∧ mb "hex" = some (.builtin "hex")) {fa : Addr} (hF : mg "COMPILER_FLAG_NAMES" = some (.ref fa)) (T : TabAt (PySem.intKind prog w) PyData.int B fa VK)
  (n : Int) (res : List Str) (hres : vQ 32 0 n [] = some res) (hj : yG wz res = true) :
  vN prog w 0 B flS [ofString "flags"] [.int n] (.str (wv wz res)):=by
 intro A s M₀ env Own M s₁ R X S
 simp only [zip_cons_cons,map_cons,map_nil,zip_nil_right] at S
 refine' wC S ?nA ?nB ?nC ?nD
 case nB => k_extra "kd"
 case nC => rfl
 case nA => k_extra "z"
 clear S
 intro a s' na S
 have fin : ∀ (ns : List Str) {s₂ : Shared} {ρ : List (Str × RV)},ns = res → (ofString "names",RV.adr a) ∈ ρ → St prog w B s (fun _ => False) M₀ Wh env (fun b => Own b ∨ b = a) (fun b => M b ∨ b = a) ρ [(a,.list (ns.map .str))] s₂ →
    wpAny (model prog w) A (execs ((zB flS).drop 2) env) (xJ prog w B s (fun _ => False) M₀ Wh env (.str (wv wz res))) (fun _ _ => False) s₂:=by
  intro ns s₂ ρ e hm S
  subst e
  refine' jN (r:=.str (wv wz ns)) S ?ra ?rb ?rc
  case ra =>
    refine' Ev.meth ?S ?R ?qo ?T ?qp ?qs ?qt ?qx ?qb ?qf ?ql ?qc
    case S => k_extra "S"
    case R | qo => k_extra "z"
    case T => rfl
    case qp => k_extra "pa"
    case qs => k_extra "slot"
    case qt => k_extra "mty"
    case qx => k_extra "z"
    case qb => rfl
    case qf => decide
    case ql => rfl
    case qc => k_extra "z"
  case rb => rfl
  case rc => exact fun v s' x => x
 refine' xP (α:=Int) (σ:=Int × List Str) S R ?qv (vJ 0 32 1) .int ?src (fun y => [(ofString "i",.dat (.int y))]) ?asg ?fs (fun c => [(ofString "flags",.dat (.int c.1)),(ofString "names",.adr a)]) (fun c => [(a,.list (c.2.map .str))])
  (fun i c => vQ (32 - i) i c.1 c.2 = some res ∧ c.2.length ≤ i) (fun f c _ => f = .brk ∧ c.2 = res) (n,[]) ?hp0 ?rho rfl ?off ?turn ?done ?exit
 case qv => k_extra "z"
 case src => exact .rng rfl
 case asg => exact fun y _ => wu.name (by k_extra "kd")
 case fs => k_extra "fs"
 case hp0 => exact ⟨hres,le_refl _⟩
 case rho => k_extra "sub"
 case off => intro c y; k_extra "kd"
 case turn =>
  clear S
  intro i y c M' s₁ hy hP hMM S
  obtain rfl:=Xi hy
  have hi : i < 32:=by
    have:=(List.getElem?_eq_some_iff.mp hy).1
    rw [yM] at this
    exact this
  obtain ⟨fl,ns⟩:=c
  obtain ⟨hP,hlen⟩:=hP
  rw [show 32 - i = (31 - i) + 1 from succ_sub (m:=31) (Nat.le_of_lt_succ hi),vQ] at hP
  dsimp only at hP hlen S
  k_extra "set"
  rw [show (i : Int).toNat = i from toNat_natCast i] at S
  k_extra "if"
  cases hb : (Builtin.bitAnd fl (1 * 2 ^ i) != 0)
  · show wpAny _ _ (execs (if false = true then _ else _) env) _ _ _
    simp only [false_eq_true,if_false]
    refine zD (zD ?_)
    refine ⟨(fl,ns),_,_,S.sub ?_, ?_⟩
    · k_extra "sub"
    · rw [hb] at hP
      simp only [false_eq_true,if_false] at hP
      exact ⟨by rw [show 32 - (i + 1) = 31 - i from Nat.add_sub_add_right 31 1 i]; exact hP,by simp; k_extra "o"⟩
  rw [hb] at hP
  simp only [if_true] at hP
  have hz : (vo (1 * 2 ^ i)).length ≤ sizeLine:=by
    by_cases hz : (vo (1 * 2 ^ i)).length ≤ sizeLine
    · exact hz
    · rw [if_neg hz] at hP; cases hP
  rw [if_pos hz] at hP
  show wpAny _ _ (execs (if true = true then _ else _) env) _ _ _
  simp only [if_true]
  refine' wm (pre:=[]) (d:=.list (ns.map .str)) (d':=.list (ns.map .str ++ [.str (wK (1 * 2 ^ i))])) (ds:=[.str (wK (1 * 2 ^ i))]) S R ?stM ?stN ?stH ?stO ?stT ?stP ?stL ?stY ?stX ?stF ?stE ?stC ?stD
  case stM => k_extra "mem"
  case stN => k_extra "kd"
  case stH => rfl
  case stO => k_extra "z"
  case stT => rfl
  case stP => k_extra "pa"
  case stL => k_extra "slot"
  case stY => k_extra "mty"
  case stF => decide
  case stE => rfl
  case stX =>
    refine' Zr.cons ?ea Zr.nil ?eb
    case eb => intro _; rfl
    case ea =>
      refine' Jr S.e R ?fo T ?fx ?fb ?ff ?fl
      case fo => k_extra "z"
      case fb => rfl
      case ff => decide
      case fl => rfl
      case fx => k_extra "z"
  case stC => exact wI.append _ _ (by rw [length_map,sizeLine_eq]; k_extra "o")
  k_extra "next"
  have e3 : ns.map D.str ++ [D.str (wK (1 * 2 ^ i))] = (ns ++ [wK (1 * 2 ^ i)]).map D.str:=by simp
  simp only [nil_append,e3] at S
  k_extra "aug"
  cases hx : (Builtin.bitXor fl (1 * 2 ^ i) != 0)
  · rw [hx] at hP
    simp only [false_eq_true,if_false,Option.some.injEq] at hP
    k_extra "if"
    rw [hx]
    show wpAny _ _ (execs (if (!false) = true then _ else _) env) _ _ _
    simp only [Bool.not_false,if_true]
    refine wpAny_execs_cons (wpAny_Break ?_)
    refine ⟨(Builtin.bitXor fl (1 * 2 ^ i),ns ++ [wK (1 * 2 ^ i)]),_,_,S.sub ?_, ?_⟩
    · k_extra "sub"
    · exact ⟨rfl,hP⟩
  · rw [hx] at hP
    simp only [if_true] at hP
    k_extra "if"
    rw [hx]
    show wpAny _ _ (execs (if (!true) = true then _ else _) env) _ _ _
    simp only [Bool.not_true,false_eq_true,if_false]
    refine zD (zD (zD ?_))
    refine ⟨(Builtin.bitXor fl (1 * 2 ^ i),ns ++ [wK (1 * 2 ^ i)]),_,_,S.sub ?_, ?_⟩
    · k_extra "sub"
    · exact ⟨by rw [show 32 - (i + 1) = 31 - i from Nat.add_sub_add_right 31 1 i]; exact hP,by simp; k_extra "o"⟩
 case done =>
  clear S
  intro c s' hP S
  obtain ⟨fl,ns⟩:=c
  obtain ⟨hP,hlen⟩:=hP
  have hl32 : (vJ 0 32 1).length = 32:=by rw [yM]; rfl
  rw [hl32,show 32 - 32 = 0 from rfl,vQ] at hP
  rw [hl32] at hlen
  dsimp only at hP hlen S
  by_cases hz : (vo fl).length ≤ sizeLine
  · rw [if_pos hz,Option.some.injEq] at hP
    refine' wm (pre:=[]) (d:=.list (ns.map .str)) (d':=.list (ns.map .str ++ [.str (vo fl)])) (ds:=[.str (vo fl)]) S R ?sqM ?sqN ?sqH ?sqO ?sqT ?sqP ?sqL ?sqY ?sqX ?sqF ?sqE ?sqC ?sqD
    case sqM => k_extra "mem"
    case sqN => k_extra "kd"
    case sqH => rfl
    case sqO => k_extra "z"
    case sqT => rfl
    case sqP => k_extra "pa"
    case sqL => k_extra "slot"
    case sqY => k_extra "mty"
    case sqF => decide
    case sqE => rfl
    case sqX => k_extra "z"
    case sqC => exact wI.append _ _ (by rw [length_map,sizeLine_eq]; k_extra "o")
    intro s' S'
    have e3 : ns.map D.str ++ [D.str (vo fl)] = (ns ++ [vo fl]).map D.str:=by simp
    simp only [nil_append,e3] at S'
    refine zD ?_
    exact fin (ns ++ [vo fl]) hP (by k_extra "mem") S'
  · rw [if_neg hz] at hP; cases hP
 case exit =>
  rintro f c s' ⟨rfl,e⟩ S'
  exact fin c.2 e (by k_extra "mem") S'
noncomputable abbrev Z2:=(zR pvS).names
noncomputable def wa (b : Array UInt8) : Nat → Int → Int → Nat → Option (Int × Nat)
 | 0,_,_,_ => none
 | n + 1,c,v,i => if (Builtin.bitAnd c 64 != 0) = true then (match b[i]? with
  | none => none
  | some o => wa b n (o.toNat : Int) (Builtin.bitOr (v * 2 ^ (6 : Int).toNat) (Builtin.bitAnd (o.toNat : Int) 63)) (i + 1)) else some (v,i)
noncomputable def x0 (b : Array UInt8) (i : Nat) : Option (Int × Nat):=match b[i]? with
 | none => none
 | some o => wa b (b.size + 1 - (i + 1)) (o.toNat : Int) (Builtin.bitAnd (o.toNat : Int) 63) (i + 1)
theorem yj (b : Array UInt8) (n : Nat) (c v : Int) (i : Nat) : wa b (n + 1) c v i = if (Builtin.bitAnd c 64 != 0) = true then (match b[i]? with
 | none => none
 | some o => wa b n (o.toNat : Int) (Builtin.bitOr (v * 2 ^ (6 : Int).toNat) (Builtin.bitAnd (o.toNat : Int) 63)) (i + 1)) else some (v,i):=rfl
theorem JM (x : Int) : 0 ≤ Builtin.bitAnd x 63 ∧ Builtin.bitAnd x 63 < 64:=by
 have:=bitAnd_range x (y:=63) (by decide)
 k_extra "o"
theorem kD {a b : Nat} (h : a ≤ b) : (2 : Int) ^ (6 * a) ≤ 2 ^ (6 * b):=by
 have : (2 : Nat) ^ (6 * a) ≤ 2 ^ (6 * b):=Nat.pow_le_pow_right (by decide) (by k_extra "o")
 exact_mod_cast this
theorem QJ {a : Nat} (h : 1 ≤ a) : (64 : Int) ≤ 2 ^ (6 * a):=by
 have:=kD h
 simpa using this
theorem J9 {v o : Int} {i : Nat} (h0 : 0 ≤ v) (h1 : v < 2 ^ (6 * i)) (ho : 0 ≤ o ∧ o < 64) : 0 ≤ Builtin.bitOr (v * 2 ^ (6 : Int).toNat) o ∧ Builtin.bitOr (v * 2 ^ (6 : Int).toNat) o < 2 ^ (6 * (i + 1)):=by
 have r:=bitAnd_range (v * 2 ^ (6 : Int).toNat) ho.1
 rw [bitOr_and]
 generalize Builtin.bitAnd (v * 2 ^ (6 : Int).toNat) o = z at r ⊢
 rw [show (v * 2 ^ (6 : Int).toNat) = v * 64 by rfl,Nat.mul_add,Int.pow_add]
 have : (2 : Int) ^ (6 * 1) = 64:=by decide
 rw [this]
 constructor
 · k_extra "o"
 · have : v * 64 + o - z < (v + 1) * 64:=by k_extra "o"
   exact Int.lt_of_lt_of_le this (Int.mul_le_mul_of_nonneg_right (by k_extra "o") (by decide))
theorem Xk.shl6 {A : Around} {M : Addr → Prop} (a : Int) (ha : a.natAbs < 2 ^ 6000) : Xk prog w A M .LShift (.int a) (.int 6) (.int (a * 2 ^ (6 : Int).toNat)):=by
 intro s E Q x y rx ry hQ
 obtain ⟨t,rfl⟩:=rx.int_inv; obtain ⟨u,rfl⟩:=ry.int_inv
 have hb : Builtin.Int.intBits a ≤ 6000:=intBits_le_iff.mpr ha
 exact PyProof.Rows.ilshift_int (by decide) (by k_extra "o") (hQ _ _ (zL s _) (.int _ _))
structure KY where
 c : Int
 v : Int
 i : Nat
theorem zA5 (G : Gl B mg mb) (hnx : mg "next" = none ∧ mb "next" = some (.builtin "next")) {A : Around} {s s₁ : Shared} {M₀ Own M : Addr → Prop} {env : Env} {it : Addr} {b : Array UInt8} {i : Nat} {E : Value → Shared → Prop}
  (R : Rm A 0) (hsmall : b.size ≤ 1000) (S : St prog w B s (fun a => a = it) M₀ Z2 env Own M [(ofString "iterator",.adr it)] [(it,.bit b i)] s₁) (hPO : PassesOwn (model prog w) A env E)
  {Q : Flow → Shared → Prop}
  (hQ : ∀ v j x s' ρ',x0 b i = some (v,j) → St prog w B s (fun a => a = it) M₀ Z2 env Own M ρ' [(it,.bit b j)] s' → Rp prog w s'.heap M x (.int v) → Q (.ret x) s')
  (hX : ∀ s' ρ' j h₁ h' e,x0 b i = none → St prog w B s (fun a => a = it) M₀ Z2 env Own M ρ' [(it,.bit b j)] s' → Heap.SameBut it s'.heap h₁ → (∃ o,h₁.get? it = some o) → Heap.NewExc h₁ h' e "StopIteration" → E (.ref e) { s' with heap:=h' }) :
  wpAny (model prog w) A (execs (zB pvS) env) Q E s₁:=by
 have hOit : Own it:=S.own₀ it rfl
 have hE0:=S.e
 refine' VB (y:=ofString "iterator") G hnx S R.hh ?m1 ?m2 ?m3 ?m4 hOit ?m5 ?m6 ?m7
 case m1 => k_extra "mem"
 case m2 | m3 | m4 => k_extra "kd"
 case m5 => rfl
 case m7 =>
  intro s₂ h₁ h' e hb S₂ sb hex hx
  exact hX s₂ _ i h₁ h' e (by rw [x0,hb]) S₂ sb hex hx
 case m6 =>
  clear hE0
  clear S
  intro c s' hc S
  have hpv : x0 b i = wa b (b.size + 1 - (i + 1)) (c.toNat : Int) (Builtin.bitAnd (c.toNat : Int) 63) (i + 1):=by rw [x0,hc]
  have hib : i < b.size:=(Array.getElem?_eq_some_iff.mp hc).1
  show wpAny _ _ (execs (_ :: _ :: _ :: []) env) _ _ _
  k_extra "set"
  refine' Zf (σ:=KY) S hPO (fun p => [(ofString "val",.dat (.int p.v)),(ofString "b",.dat (.int p.c)),(ofString "iterator",.adr it)]) (fun p => [(it,.bit b p.i)])
   (fun p => x0 b i = wa b (b.size + 1 - p.i) p.c p.v p.i ∧ p.i ≤ b.size ∧ 0 ≤ p.v ∧ p.v < 2 ^ (6 * p.i)) (fun p => b.size + 1 - p.i) (fun p => Builtin.bitAnd p.c 64 != 0) ⟨(c.toNat : Int),Builtin.bitAnd (c.toNat : Int) 63,i + 1⟩ ?w1 ?w2 ?w3 ?w4 ?w5 ?w6
  case w1 => exact ⟨hpv,hib,(JM (c.toNat : Int)).1,Int.lt_of_lt_of_le (JM (c.toNat : Int)).2 (QJ (Nat.le_add_left 1 i))⟩
  case w2 => k_extra "sub"
  case w3 => rfl
  case w4 =>
   clear S
   intro p s₂ _ S
   k_extra "z"
  case w5 =>
   clear S
   intro p s₂ hP ht S
   obtain ⟨h1,h2,h3⟩:=hP
   have hn : b.size + 1 - p.i = (b.size - p.i) + 1:=succ_sub h2
   have hpow : p.v.natAbs < 2 ^ 6000:=by
    have q : (2 : Int) ^ (6 * p.i) ≤ 2 ^ (6 * 1000):=kD (by k_extra "o")
    have e : ((2 ^ 6000 : Nat) : Int) = 2 ^ (6 * 1000):=by rw [Int.natCast_pow]; rfl
    have:=h3.2
    generalize (2 : Nat) ^ 6000 = z at e ⊢
    generalize (2 : Int) ^ (6 * 1000) = z' at e q
    generalize (2 : Int) ^ (6 * p.i) = z'' at q this
    exact QE h3.1 e q this
   rw [hn,yj,if_pos ht] at h1
   refine' QZ S ?aM ?aA ?aB (Xk.shl6 p.v hpow) ?aD
   case aM => k_extra "mem"
   case aB => k_extra "kd"
   case aA => k_extra "z"
   k_extra "next"
   show wpAny _ _ (execs (_ :: _ :: []) env) _ _ _
   refine' VB (y:=ofString "iterator") G hnx S R.hh ?m1 ?m2 ?m3 ?m4 hOit ?m5 ?m6 ?m7
   case m1 => k_extra "mem"
   case m2 | m3 | m4 => k_extra "kd"
   case m5 => rfl
   case m7 =>
    intro s₂ h₁ h' e hb S₂ sb hex hx
    rw [hb] at h1
    exact hX s₂ _ _ h₁ h' e h1 S₂ sb hex hx
   case m6 =>
    clear S
    intro o s₃ ho S
    rw [ho] at h1
    have hib : p.i < b.size:=(Array.getElem?_eq_some_iff.mp ho).1
    dsimp only at h1
    k_extra "aug"
    refine zD ⟨rfl,⟨(o.toNat : Int),Builtin.bitOr (p.v * 2 ^ (6 : Int).toNat) (Builtin.bitAnd (o.toNat : Int) 63),p.i + 1⟩,⟨?q1,hib, ?q3⟩, ?q4,S.sub ?q5⟩
    case q5 => k_extra "sub"
    case q1 => rw [h1,Nat.add_sub_add_right]
    case q3 => exact J9 h3.1 h3.2 (JM _)
    case q4 => dsimp only; rw [hn,Nat.add_sub_add_right]; exact lt_succ_self _
  case w6 =>
   clear S
   intro p s₂ hP ht S
   obtain ⟨h1,h2,h3⟩:=hP
   rw [succ_sub h2,yj,if_neg (by rw [ht]; decide)] at h1
   refine' xO (d:=.int p.v) S ?ra ?rb
   case ra => k_extra "z"
   case rb => exact fun v s' S' r => hQ p.v p.i v s' _ h1 S' r
noncomputable abbrev jy:=(zR rdS).names
theorem KG (G : Gl B mg mb) (hnx : mg "next" = none ∧ mb "next" = some (.builtin "next")) {f : Addr} {fd : FuncData} (H : zl B mg "_parse_varint" pvS f fd) (hb : ∀ v s,BindsTo s fd ⟨[v],[]⟩ [(ofString "iterator",v)])
   {A : Around} {s : Shared} {M₁ : Addr → Prop} {it : Addr} {b : Array UInt8} {i : Nat} {l : List Env} {Q E : Value → Shared → Prop} (R : Rm A 1) (hsmall : b.size ≤ 1000) (X : zS B s.heap) (hold : ∀ a,M₁ a → ∃ o,s.heap.get? a = some o) (hm : M₁ it) (hBi : B.get? it = none) {t : Tok} (hg : s.heap.get? it = some (qV b t i))
   (hfr : A.frames = some l) (ok : yN s.heap l)
   (hQ : ∀ v j x s',x0 b i = some (v,j) → Xj [it] s s' → (∃ t,s'.heap.get? it = some (qV b t j)) → (∃ tt,x = .int v tt) → Q x s')
   (hX : ∀ h₁ h' tk e l₁,x0 b i = none → (∀ a o,a ≠ it → s.heap.get? a = some o → h₁.get? a = some o) → (∃ o,h₁.get? it = some o) → (∀ a ∈ xA l₁,a ∈ xA l ∨ s.heap.get? a = none) → it ∉ xA l₁ → Wk h₁ l₁ l e "StopIteration" h' → E (.ref e) { s with heap:=h',toks:=tk }) :
   wpAny (model prog w) A (PySem.call (.ref f) [.ref it]) Q E s:=by
 obtain ⟨o,ho,hd'⟩:=H.get
 have hfl : ∀ a ∈ xA l,a ≠ it:=fun a ha q => by
   obtain ⟨o,e,n⟩:=ok.frame ha
   rw [q,hg] at e; cases e; exact n _ rfl
 refine wpAny_call (jV (M₀:=M₁) (Own₀:=fun a => a = it) (B:=B) (μ₀:=[(it,.bit b i)]) (ρ₀:=[(ofString "iterator",.adr it)]) H.ok R (X f o ho) hd' G.lim X (zi H.code X) H.body (hb (.ref it) s) (by simp) ?_ hold (fun a z => ?_) (fun x c e => by rw [H.clo] at e; cases e) ?_ (fun a d hm => ?_) (by simp) ?_)
 · rw [H.scope]; k_extra "kd"
 · subst z; exact ⟨hm,hBi⟩
 · intro x r hm
   cases mem_singleton.mp hm
   exact .inl ⟨.ref it,.head _,rfl⟩
 · cases mem_singleton.mp hm; exact .itr hg
 · intro env Own M s₁ hL R' hO hMM S
   rw [H.scope] at S
   obtain ⟨L,rfl⟩:=hL
   refine zA5 G hnx R' hsmall S PassesOwn.leaving ?_ ?_
   · intro v j x s' ρ' hv S' rx
     obtain ⟨h',tk,e⟩:=S'.same
     obtain ⟨tt,rfl⟩:=rx.int_inv
     refine hQ v j _ s' hv ⟨h',tk,e,fun a o n q => ?_⟩ ?_ ⟨_,rfl⟩
     · have:=S'.keep a o (by simpa using n) q
       rw [e] at this; exact this
     · have:=S'.e.mem it _ (.head _)
       cases this with | itr p => exact ⟨_,p⟩
   · intro s' ρ' j h₁ h' e hv S' sb hex hx
     have hsep : (zW fd L f).locals ∉ [it]:=fun z => S'.sep it _ (.head _) (.inl (mem_singleton.mp z).symm)
     obtain ⟨ok1,kp⟩:=S'.raised (wr:=[it]) (l:=l) rfl (fun a z => by simp [z]) ok (fun a ha z => hfl a ha z) (h₁:=h₁) (fun a o n e => (sb.2 a (by simpa using n)).trans e) hsep (fun a ha => by simpa using hfl a ha)
     refine Vj (l:=l) (L:=L) (Around.frames_deeper hfr) rfl ok1 hx fun h2 F => ?_
     obtain ⟨h0,tk,e0⟩:=S'.same
     have efr : xA (zW fd L f :: l) = L :: xA l:=rfl
     have:=hX h₁ h2 tk e (zW fd L f :: l) hv (fun a o n q => kp a o (by simpa using n) q) hex (fun a ha => ?_) (fun z => ?_) F
     · rw [e0]; exact this
     · rw [efr] at ha
       rcases mem_cons.mp ha with rfl | ha
       · refine .inr ?_
         rcases S'.fresh _ (S'.fr _ (.inl rfl)) with z | z
         · exact absurd (mem_singleton.mpr z) hsep
         · exact z
       · exact .inl ha
     · rw [efr] at z
       rcases mem_cons.mp z with z | z
       · exact hsep (mem_singleton.mpr z.symm)
       · exact hfl _ z rfl
theorem kE (b : Array UInt8) : ∀ (n : Nat) (c v : Int) (i : Nat) (v' : Int) (j : Nat),i ≤ b.size → wa b n c v i = some (v',j) → i ≤ j ∧ j ≤ b.size
 | 0,_,_,_,_,_,_,h => by cases h
 | n + 1,c,v,i,v',j,hi,h => by
  rw [yj] at h
  split at h
  · cases hb : b[i]? with
    | none => rw [hb] at h; cases h
    | some o =>
     rw [hb] at h
     have hlt:=(Array.getElem?_eq_some_iff.mp hb).1
     have:=kE b n _ _ _ _ _ (Nat.succ_le_of_lt hlt) h
     k_extra "o"
  · cases h; exact ⟨le_refl _,hi⟩
theorem Yv {b : Array UInt8} {i : Nat} {v : Int} {j : Nat} (h : x0 b i = some (v,j)) : i < j ∧ j ≤ b.size:=by
 rw [x0] at h
 cases hb : b[i]? with
 | none => rw [hb] at h; cases h
 | some o =>
  rw [hb] at h
  have hlt:=(Array.getElem?_eq_some_iff.mp hb).1
  have:=kE b _ _ _ _ _ _ (Nat.succ_le_of_lt hlt) h
  k_extra "o"
noncomputable def jQ (b : Array UInt8) : Nat → Nat → List Int
 | 0,_ => []
 | n + 1,i => match x0 b i with
  | none => []
  | some (v,j) => v :: jQ b n j
theorem Vw (b : Array UInt8) : ∀ (n m i : Nat),b.size < n + i → b.size < m + i → jQ b n i = jQ b m i:=by
 have big : ∀ (n i : Nat),b.size ≤ i → jQ b n i = []:=fun n i h => by
  cases n with
  | zero => rfl
  | succ n => rw [jQ,x0,Array.getElem?_eq_none h]
 intro n
 induction n with
 | zero => intro m i h1 h2; rw [big m i (by k_extra "o")]; rfl
 | succ n ih =>
  intro m i h1 h2
  cases m with
  | zero => rw [big (n + 1) i (by k_extra "o")]; rfl
  | succ m =>
   simp only [jQ]
   cases hp : x0 b i with
   | none => rfl
   | some p =>
    obtain ⟨v,j⟩:=p
    have:=Yv hp
    simp only
    rw [ih m j (by k_extra "o") (by k_extra "o")]
noncomputable def wy (b : Array UInt8) : List Int:=jQ b (b.size + 1) 0
theorem kK.iterB {names : zE} {env : Env} {ρ : List (Str × RV)} {μ : List (Addr × D)} {A : Around} {h : Heap} {M : Addr → Prop} (G : Gl B mg mb) (hit : mg "iter" = none ∧ mb "iter" = some (.builtin "iter")) (hg : names.lookup (ofString "iter") = some .globalImplicit) (S : En prog w B names env h M ρ μ) {x : Str} {fp xp p : Pos} {b : Array UInt8}
  (hx : (x,RV.dat (.bytes b)) ∈ ρ) (hd : (x == ("__debug__" : Str)) = false) : kK prog w A h (.Call (.Name (ofString "iter") fp) [.Name x xp] [] p) env M (.bit b 0):=by
 intro s E Q kx hQ
 refine wh (f:=.builtin "iter") (rs:=[.dat (.bytes b)]) (S.ext kx) (Ev.glob G (S.ext kx) hg (.inr hit) (by decide)) (.inl fun _ e => by cases e) (.cons (Ev.var (S.ext kx) hx hd) .nil fun _ => rfl) fun vs s₁ k₁ rs => ?_
 refine zP.use1 rs fun v r => ?_
 obtain ⟨t,rfl⟩:=Rp.bytes_inv r
 refine jn (hQ _ _ (zA k₁ (zM s₁ _ s₁.toks)) (z9 k₁ (zc _)) (.itr (t:=t) (get?_push_size _ rfl)))
structure KP where
 told : List Int
 i : Nat
theorem Vc (G : Gl B mg mb) (hnx : mg "next" = none ∧ mb "next" = some (.builtin "next")) (hit : mg "iter" = none ∧ mb "iter" = some (.builtin "iter")) (hsi : mg "StopIteration" = none ∧ mb "StopIteration" = some (.type "StopIteration"))
   {fp : Addr} {fpd : FuncData} (HP : zl B mg "_parse_varint" pvS fp fpd) (hbp : ∀ v s,BindsTo s fpd ⟨[v],[]⟩ [(ofString "iterator",v)])
   {f : Addr} {fd : FuncData} (H : zl B mg "_law_read" rdS f fd) (hb : ∀ v s,BindsTo s fd ⟨[v],[]⟩ [(ofString "octets",v)])
   {A : Around} {s : Shared} {M₁ : Addr → Prop} {b : Array UInt8} {va : Value} {l : List Env} {Q E : Value → Shared → Prop} (R : Rm A 3) (hsmall : b.size ≤ 1000) (X : zS B s.heap) (hold : ∀ a,M₁ a → ∃ o,s.heap.get? a = some o) (ra : Rp prog w s.heap M₁ va (.bytes b))
   (hfr : A.frames = some l) (ok : yN s.heap l) (hfB : ∀ a ∈ xA l,B.get? a = none)
   (hQ : ∀ v s',(∃ h' tk,s' = { s with heap:=h',toks:=tk }) → YD l s.heap s'.heap → Rp prog w s'.heap M₁ v (.list ((wy b).map .int)) → Q v s') :
   wpAny (model prog w) A (PySem.call (.ref f) [va]) Q E s:=by
 obtain ⟨o,ho,hd'⟩:=H.get
 refine wpAny_call (jV (M₀:=M₁) (Own₀:=fun a => False) (B:=B) (μ₀:=[]) (ρ₀:=[(ofString "octets",.dat (.bytes b))]) H.ok R (X f o ho) hd' G.lim X (zi H.code X) H.body (hb va s) (by simp) ?_ hold (fun a z => z.elim) (fun x c e => by rw [H.clo] at e; cases e) ?_ (fun a d hm => by cases hm) (by simp) ?_)
 · rw [H.scope]; k_extra "kd"
 · intro x r hm
   cases mem_singleton.mp hm
   exact .inl ⟨va,.head _,ra⟩
 · intro env Own M s₁ hL R' hO hMM S
   rw [H.scope] at S
   obtain ⟨L,rfl⟩:=hL
   have R0 : Rm (A.deeper (zW fd L f)) 0:=R'.le (zero_le _)
   have hmore:=S.more
   refine' Wu (els:=[.new (.bit b 0),.new (.list [])]) S R0 [(ofString "tape",_),(ofString "told",_)] rfl ?tx (by decide) (by k_extra "kd") rfl (by simp) (ZD _ (by rfl)) ?tk
   case tx =>
    refine' Wq.cons (d:=.new (.bit b 0)) ?e1 (Wq.cons (d:=.new (.list [])) ?e2 .nil (fun _ => rfl)) (fun _ => rfl)
    case e1 =>
     intro h M μ hE
     refine' kK.iterB G hit ?i1 hE ?i2 ?i3
     case i1 => k_extra "kd"
     case i2 => k_extra "mem"
     case i3 => k_extra "kd"
    case e2 =>
     intro h M μ hE
     k_extra "z"
   clear S
   intro tp htp tl htl s' S
   k_extra "flat"
   have hne : tp ≠ tl:=fun q => htl (.inr q.symm)
   have htlM : ¬ M₁ tl:=fun z => htl (.inl (hmore tl z))
   refine wpAny_execs_cons (wpAny_Try_except ?_)
   show wpAny _ _ (execs (_ :: []) _) _ _ _
   refine' Zf (σ:=KP) S PassesOwn.looking (fun c => [(ofString "tape",.adr tp),(ofString "told",.adr tl)]) (fun c => [(tl,.list (c.told.map .int)),(tp,.bit b c.i)])
    (fun c => wy b = c.told ++ jQ b (b.size + 1 - c.i) c.i ∧ c.i ≤ b.size ∧ c.told.length ≤ c.i) (fun c => b.size - c.i) (fun _ => true) ⟨[],0⟩ ?w1 ?w2 ?w3 ?w4 ?w5 ?w6
   case w1 => exact ⟨rfl,zero_le _,le_refl _⟩
   case w2 => k_extra "sub"
   case w3 => rfl
   case w4 =>
    clear S
    intro c s₂ _ S
    exact Tv.plain (M:=fun _ => False) (d:=.bool true) (Ev.rd (Ev.const_bool _ _ _)) (ym.bool _) rfl
   case w6 => intro c s' _ h _; cases h
   case w5 =>
    clear S
    intro c s₂ hP _ S
    obtain ⟨h1,h2,h3⟩:=hP
    show wpAny _ _ (execs (_ :: []) _) _ _ _
    have okf : ∀ {s₃ : Shared},St prog w B s (fun a => False) M₁ jy (zW fd L f) (fun b => (Own b ∨ b = tp) ∨ b = tl) (fun b => (M b ∨ b = tp) ∨ b = tl) [(ofString "tape",.adr tp),(ofString "told",.adr tl)] [(tl,.list (c.told.map .int)),(tp,.bit b c.i)] s₃ → yN s₃.heap (zW fd L f :: l):=by
     intro s₃ S en he
     rcases mem_cons.mp he with rfl | he
     · refine ⟨by rw [S.e.n.fn]; decide,L, ?_⟩
       obtain ⟨m,o,es,ep,e,hd,_⟩:=S.f.ns
       exact ⟨o,rfl,e,fun vs z => by rw [hd] at z; cases z⟩
     · obtain ⟨g1,L',o,g2,g3,g4⟩:=ok en he
       exact ⟨g1,L',o,g2,S.keep _ _ (fun z => z) g3,g4⟩
    have ot : (fun b => (Own b ∨ b = tp) ∨ b = tl) tp:=.inl (.inr rfl)
    have ol : (fun b => (Own b ∨ b = tp) ∨ b = tl) tl:=.inr rfl
    have go : ∀ (E' Q' : Value → Shared → Prop) s₃,St prog w B s (fun a => False) M₁ jy (zW fd L f) (fun b => (Own b ∨ b = tp) ∨ b = tl) (fun b => (M b ∨ b = tp) ∨ b = tl) [(ofString "tape",.adr tp),(ofString "told",.adr tl)] [(tl,.list (c.told.map .int)),(tp,.bit b c.i)] s₃ →
       (∀ v j x s',x0 b c.i = some (v,j) → St prog w B s (fun a => False) M₁ jy (zW fd L f) (fun b => (Own b ∨ b = tp) ∨ b = tl) (fun b => (M b ∨ b = tp) ∨ b = tl) [(ofString "tape",.adr tp),(ofString "told",.adr tl)] ([(tl,.list (c.told.map .int))] ++ (tp,.bit b j) :: []) s' → Rp prog w s'.heap (fun b => (M b ∨ b = tp) ∨ b = tl) x (.int v) → Q' x s') →
       (∀ s₄ h₁ h' tk e l₁,x0 b c.i = none → St prog w B s (fun a => False) M₁ jy (zW fd L f) (fun b => (Own b ∨ b = tp) ∨ b = tl) (fun b => (M b ∨ b = tp) ∨ b = tl) [(ofString "tape",.adr tp),(ofString "told",.adr tl)] [(tl,.list (c.told.map .int)),(tp,.bit b c.i)] s₄ → (∀ a o,a ≠ tp → s₄.heap.get? a = some o → h₁.get? a = some o) → (∀ a ∈ xA l₁,a ∈ xA (zW fd L f :: l) ∨ s₄.heap.get? a = none) → Wk h₁ l₁ (zW fd L f :: l) e "StopIteration" h' → E' (.ref e) { s₄ with heap:=h',toks:=tk }) →
       ∀ fp' tp' p',wpAny (model prog w) (A.deeper (zW fd L f)) (eval (.Call (.Name (ofString "_parse_varint") fp') [.Name (ofString "tape") tp'] [] p') (zW fd L f)) Q' E' s₃:=by
     intro E' Q' s₃ S hq hx fp' tp' p'
     refine' wh (f:=.ref fp) (rs:=[.adr tp]) S.e ?gf (HP.keepy) ?gx ?gq
     case gf => k_extra "z"
     case gx =>
       refine .cons (Ev.var S.e ?x1 ?x2) .nil fun _ => rfl
       case x1 => k_extra "mem"
       case x2 => k_extra "kd"
     case gq =>
       intro vs s₄ k₄ rs
       have S₄:=S.step k₄
       refine zP.use1 rs fun v1 r1 => ?_
       have r1 : v1 = .ref tp:=r1
       subst r1
       obtain ⟨t,ht⟩ : ∃ t,s₄.heap.get? tp = some (qV b t c.i):=by
         have:=S₄.e.mem tp _ yY
         cases this with | itr p => exact ⟨_,p⟩
       refine KG (M₁:=fun b => (M b ∨ b = tp) ∨ b = tl) (l:=zW fd L f :: l) G hnx HP hbp (R'.le (by k_extra "o")) hsmall S₄.e.base S₄.e.old (.inl (.inr rfl)) (S₄.base tp ot) ht (Around.frames_deeper hfr) (okf S₄) ?pq ?px
       case pq =>
         intro v j x s' hv ef hg hx'
         obtain ⟨tt,rfl⟩:=hx'
         obtain ⟨t',hg⟩:=hg
         obtain ⟨h',tk,rfl,kk⟩:=ef
         exact hq v j _ _ hv (S₄.effect1 (pre:=[(tl,.list (c.told.map .int))]) (post:=[]) rfl ot (fun a o n e => kk a o (by simpa using n) e) (.itr hg)) (.int _ _)
       case px =>
         intro h₁ h' tk e l₁ hv kp hex hfr' hn F
         exact hx s₄ h₁ h' tk e l₁ hv S₄ kp hfr' F
    cases hpv : x0 b c.i with
    | some p =>
     obtain ⟨v,j⟩:=p
     refine' VO True (d1:=.list (c.told.map .int)) (dd:=.int v) (pre:=[]) (post:=[(tp,.bit b j)]) S R0 ?m1 ?m2 (.head _) ol rfl ?m3 ?m4 ?m5 ?m6 ?m7 ?m8 (wI.append _ _ ?m9) ?m10
     case m1 => k_extra "mem"
     case m2 => k_extra "kd"
     case m3 => k_extra "pa"
     case m4 => k_extra "slot"
     case m5 => k_extra "mty"
     case m6 => exact fun _ => rfl
     case m7 => rfl
     case m8 =>
       intro Q' s₃ S₃ hQ'
       refine go _ _ s₃ S₃ ?_ ?_ _ _ _
       · intro v' j' x s' e S' r
         rw [hpv] at e; cases e
         exact hQ' x s' trivial S' r
       · intro s₄ h₁ h' tk e l₁ hv
         rw [hpv] at hv; cases hv
     case m9 => simp; rw [sizeLine_eq]; k_extra "o"
     case m10 =>
       clear S
       intro s₃ _ S
       rw [nil_append,show (c.told.map D.int ++ [D.int v]) = (c.told ++ [v]).map D.int by simp] at S
       have ha:=Yv hpv
       refine zD ⟨rfl,⟨c.told ++ [v],j⟩,⟨?q1,ha.2, ?q3⟩, ?q4,S⟩
       case q1 =>
         rw [h1,succ_sub h2,jQ,hpv]
         simp only [List.append_assoc,List.singleton_append]
         rw [Vw b (b.size - c.i) (b.size + 1 - j) j (by k_extra "o") (by rw [Nat.sub_add_cancel (Nat.le_succ_of_le ha.2)]; exact lt_succ_self _)]
       case q3 => simp; k_extra "o"
       case q4 => exact Nat.sub_lt_sub_left (lt_of_lt_of_le ha.1 ha.2) ha.1
    | none =>
     have hall : wy b = c.told:=by
       rw [h1,succ_sub h2,jQ,hpv]; simp
     refine' VO False (d1:=.list (c.told.map .int)) (dd:=.int 0) (d':=.list (c.told.map .int ++ [.int 0])) (pre:=[]) (post:=[(tp,.bit b c.i)]) S R0 ?m1 ?m2 (.head _) ol rfl ?m3 ?m4 ?m5 ?m6 ?m7 ?m8 (wI.append _ _ ?m9) ?m10
     case m1 => k_extra "mem"
     case m2 => k_extra "kd"
     case m3 => k_extra "pa"
     case m4 => k_extra "slot"
     case m5 => k_extra "mty"
     case m6 => exact fun _ => rfl
     case m7 => rfl
     case m9 => simp; rw [sizeLine_eq]; k_extra "o"
     case m10 => exact fun _ h => h.elim
     case m8 =>
       intro Q' s₃ S₃ _
       refine go _ _ s₃ S₃ ?_ ?_ _ _ _
       · intro v' j' x s' e
         exact X3 hpv e
       · clear S S₃
         intro s₄ h₁ h' tk e l₁ _ S kp hl1 F
         have hBf : ∀ a ∈ xA (zW fd L f :: l),B.get? a = none:=fun a ha => by
           rcases mem_cons.mp (show a ∈ L :: xA l from ha) with rfl | ha
           · exact S.base _ (S.fr _ (.inl rfl))
           · exact hfB a ha
         have hXB : zS B (hideAll h₁ (xA l₁)):=fun a o e => by
           have e1:=S.e.base a o e
           refine hideAll_get _ (kp a o (fun q => ?_) e1) fun z => ?_
           · exact X3 (S.base tp ot) (by rw [← q]; exact e)
           · rcases hl1 a z with z | z
             · exact X3 (hBf a z) e
             · exact X3 z e1
         obtain ⟨h4,tk4,e4⟩:=S.same
         refine zA1 (L:=L) (Around.frames_deeper hfr) rfl F (isSubtype_of_subB (by decide +kernel)) (isSubtype_of_subB (by decide +kernel)) (isSubtype_of_subB (by decide +kernel)) ?_ PassesOwnAt.leaving ?_
         · intro s' E' Q' X' hq
           exact Wx G S.e.n (hXB.trans X') (by k_extra "kd") (.inr hsi) (by decide) hq
         · intro h5 XO
           have hk5 : ∀ a o,a ≠ tp → a ∉ xA (zW fd L f :: l) → s₄.heap.get? a = some o → h5.get? a = some o:=fun a o n1 n2 e1 => by
             refine XO.1 a o (fun z => ?_) (kp a o n1 e1)
             rcases hl1 a z with z | z
             · exact n2 z
             · exact X3 z e1
           have hu5 : ∀ a o,a ≠ tp → s₄.heap.get? a = some o → (∀ vs,o.data ≠ .fields vs) → ∃ sl,h5.get? a = some { o with slots:=sl }:=fun a o n1 e1 n2 => XO.2 a o (kp a o n1 e1) n2
           have htn : tl ∉ xA (zW fd L f :: l):=fun z => by
             rcases mem_cons.mp (show tl ∈ L :: xA l from z) with z | z
             · exact S.sep tl _ (.head _) (.inl z)
             · obtain ⟨o,e1,_⟩:=ok.frame z
               rcases S.fresh tl ol with q | q
               · exact q
               · exact X3 q e1
           obtain ⟨v,hv,hr⟩:=S.e.vars (ofString "told") _ yY
           have hr : v = .ref tl:=hr
           subst hr
           have hv5 : yL (zW fd L f) h5 (ofString "told") (.ref tl):=by
             rcases hv with ⟨a,m,⟨o,es,ep,q1,q2,q3⟩,e1⟩ | ⟨a,c1,e1,o,q1,q2⟩
             · obtain ⟨sl,q⟩:=hu5 _ o (fun z => S.sep tp _ yY (.inl z.symm)) q1 fun vs z => by rw [q2] at z; cases z
               exact .inl ⟨a,m,⟨_,es,ep,q,q2,q3⟩,e1⟩
             · obtain ⟨sl,q⟩:=hu5 _ o (fun z => zr (S.e.mem tp _ yY) ⟨o,z ▸ q1,q2⟩) q1 fun vs z => by rw [q2] at z; cases z
               exact .inr ⟨a,c1,e1,_,q,q2⟩
           obtain ⟨us,⟨n,pl⟩,rs⟩:=(S.e.mem tl _ (.head _)).list_inv
           refine wpAny_execs_cons (wpAny_Return_some (YT S.e.n hv5 (by k_extra "kd") ?_))
           have:=hQ (.ref tl) { s₄ with heap:=h5,toks:=tk } ⟨h5,tk,by rw [e4]⟩ ⟨fun a o n e1 => ?_,fun a o e1 n => ?_⟩ (.list (vs:=us) ⟨n,hk5 tl _ hne.symm htn pl⟩ htlM ?_)
           · exact this
           · have e2:=S.keep a o (fun z => z) e1
             refine hk5 a o (fun z => ?_) (fun z => ?_) e2
             · rcases S.fresh tp ot with q | q
               · exact q
               · exact X3 q (by rw [← z]; exact e1)
             · rcases mem_cons.mp (show a ∈ L :: xA l from z) with z | z
               · rcases S.fresh L (S.fr _ (.inl rfl)) with q | q
                 · exact q
                 · exact X3 q (by rw [← z]; exact e1)
               · exact n z
           · refine hu5 a o (fun z => ?_) (S.keep a o (fun z => z) e1) n
             rcases S.fresh tp ot with q | q
             · exact q
             · exact X3 q (by rw [← z]; exact e1)
           · rw [hall]
             have : ∀ (vs : List Value) (zs : List Int),zH prog w s₄.heap (fun b => (M b ∨ b = tp) ∨ b = tl) vs (zs.map D.int) → zH prog w h5 M₁ vs (zs.map D.int):=by
               intro vs zs
               induction zs generalizing vs with
               | nil => intro r; cases r; exact .nil
               | cons z zs ih =>
                 intro r
                 cases r with
                 | cons r0 r => exact .cons (Kp r0 rfl) (ih _ r)
             exact this us c.told rs
noncomputable def kM (fd : FuncData) : Prop:=∀ s a,BindsTo s fd ⟨[a],[]⟩ [(ofString "self",a)]
noncomputable def zAi (B : Heap) (fd : FuncData) : Prop:=fd.kwdefaults = .none ∧ ∃ T o n,fd.defaults = .ref T ∧ B.get? T = some o ∧ o.data = .seq #[.none] n
structure vr (B : Heap) (mg mb : Str → Option Value) (C N : Addr) (mN : Str → Option Value) : Prop where
 G : Gl B mg mb
 cls : ClsAt B C N mN
 nga : mN (ofString "__getattribute__") = none
 nge : mN (ofString "__getattr__") = none
 nse : mN (ofString "__setattr__") = none
 nhd : mN (ofString "_headers") = none
 init : ∃ f fd,mN (ofString "__init__") = some (.ref f) ∧ zw B (xC 0) f fd ∧ zAi B fd
 conv : ∃ f fd,mN (ofString "_convert_string_type") = some (.ref f) ∧ zw B (xC 1) f fd ∧ ∀ s a v k,BindsTo s fd ⟨[a,v],[(ofString "name",k)]⟩ [(ofString "self",a),(ofString "value",v),(ofString "name",k)]
 gall : ∃ f fd,mN (ofString "get_all") = some (.ref f) ∧ zw B (xC 7) f fd ∧ ∀ s a v,BindsTo s fd ⟨[a,v],[]⟩ [(ofString "self",a),(ofString "name",v)]
 keys : ∃ f fd,mN (ofString "keys") = some (.ref f) ∧ zw B (xC 9) f fd ∧ kM fd
 vals : ∃ f fd,mN (ofString "values") = some (.ref f) ∧ zw B (xC 10) f fd ∧ kM fd
 items : ∃ f fd,mN (ofString "items") = some (.ref f) ∧ zw B (xC 11) f fd ∧ kM fd
 addh : ∃ f fd,mN (ofString "add_header") = some (.ref f) ∧ zw B (xC 16) f fd ∧ ∀ (s : Shared) (a n v : Value) (M : Model) (A : Around) (E : Value → Shared → Prop) (Q : List (Str × Value) → Shared → Prop),
  Q [(ofString "self",a),(ofString "_name",n),(ofString "_value",v),(ofString "_params",.ref s.heap.objs.size)] { s with heap:=s.heap.push vv } → wpAny M A (bindArgs fd ⟨[a,n,v],[]⟩) Q E s
 rn : ∃ a,mg (ofString "_name_disallowed_re") = some (.ref a) ∧ wV B a za
 rv : ∃ a,mg (ofString "_value_disallowed_re") = some (.ref a) ∧ wV B a zm
 ty : mg (ofString "type") = none ∧ mb (ofString "type") = some (.type "type")
 st : mg (ofString "str") = none ∧ mb (ofString "str") = some (.type "str")
 li : mg (ofString "list") = none ∧ mb (ofString "list") = some (.type "list")
theorem wV.ext {B B' : Heap} {a : Addr} {code : Array Nat} (P : wV B a code) (X : zS B B') : wV B' a code:=by
 obtain ⟨o,vs,c,its,n,h1,h2,h3,h4,h5,h6,h7,⟨oc,h8,h9⟩,h10⟩:=P.ob
 exact ⟨o,vs,c,its,n,X _ _ h1,h2,h3,h4,h5,h6,h7,⟨oc,X _ _ h8,h9⟩,h10⟩
theorem xe {B B' : Heap} {d : Stmt} {P : Addr → Prop} {Q : FuncData → Prop} (X : zS B B') (h : ∃ f fd,P f ∧ zw B d f fd ∧ Q fd) : ∃ f fd,P f ∧ zw B' d f fd ∧ Q fd :=
 let ⟨f,fd,h1,h2,h3⟩:=h; ⟨f,fd,h1,h2.ext X,h3⟩
theorem vr.ext {B B' : Heap} {mg mb mN : Str → Option Value} {C N : Addr} (H : vr B mg mb C N mN) (X : zS B B') : vr B' mg mb C N mN where
 G:=H.G.ext X
 cls:=H.cls.keeps X
 nga:=H.nga
 nge:=H.nge
 nse:=H.nse
 nhd:=H.nhd
 init:=by obtain ⟨f,fd,h1,h2,h3,T,o,n,h4,h5,h6⟩:=H.init; exact ⟨f,fd,h1,h2.ext X,h3,T,o,n,h4,X _ _ h5,h6⟩
 conv:=xe X H.conv
 gall:=xe X H.gall
 keys:=xe X H.keys
 vals:=xe X H.vals
 items:=xe X H.items
 addh:=xe X H.addh
 rn:=by obtain ⟨a,h1,h2⟩:=H.rn; exact ⟨a,h1,h2.ext X⟩
 rv:=by obtain ⟨a,h1,h2⟩:=H.rv; exact ⟨a,h1,h2.ext X⟩
 ty:=H.ty
 st:=H.st
 li:=H.li
noncomputable def wp (prog : Program) (w : World) (d : D) (C L : Addr) : Prop:=Y3 prog w d C (fun y => if y = ofString "_headers" then some (.ref L) else none)
theorem QM (H : vr B mg mb C N mN) {f : Addr} {fd : FuncData} (HF : zw B (xC 1) f fd) (hb : ∀ s a v k,BindsTo s fd ⟨[a,v],[(ofString "name",k)]⟩ [(ofString "self",a),(ofString "value",v),(ofString "name",k)])
   {A : Around} {s : Shared} {M₁ : Addr → Prop} {a v kv : Value} {x : Str} {b : Bool} {Q E : Value → Shared → Prop} (R : Rm A 1) (X : zS B s.heap) (hold : ∀ a,M₁ a → ∃ o,s.heap.get? a = some o) (rv : Rp prog w s.heap M₁ v (.str x)) (rk : Rp prog w s.heap M₁ kv (.bool b))
   (hx : zg (if b then za else zm) x = true) (hs : x.cps.size < 2 ^ 63)
   (hQ : ∀ v s',Keeps s s' → Rp prog w s'.heap M₁ v (.str x) → Q v s') : wpAny (model prog w) A (PySem.call (.ref f) [a,v] [(ofString "name",kv)]) Q E s:=by
 refine wo (args:=⟨[a,v],[(ofString "name",kv)]⟩) (M₁:=M₁) H.G HF (hb s a v kv) (by simp only [map_cons,map_nil]; decide) (by k_extra "kd") R X hold (fun _ => False) (fun _ z => z.elim) [(ofString "value",.dat (.str x)),(ofString "name",.dat (.bool b))] ?_ [] (fun _ _ m => by cases m) nodup_nil ?_
 · refine all_cons ?_ (all_cons ?_ all_nil)
   · exact ⟨v,yY,rv⟩
   · exact ⟨kv,wM,rk⟩
 · intro env Own M s₁ _ R' _ _ S
   have G:=H.G
   obtain ⟨an,hn1,hn2⟩:=H.rn
   obtain ⟨av,hv1,hv2⟩:=H.rv
   have hty:=H.ty
   have hst:=H.st
   refine' xn (b:=true) S ?it ?ik
   case it =>
     refine' Tv.cmp (da:=.typ "str") (db:=.typ "str") (b:=true) R' ?ql ?qr (zN.is rfl) rfl
     case ql =>
      refine' Ev.rd (Ev.call S.e R' ?qf ?K ?qx (zG.type x))
      case qf => k_extra "z"
      case K => exact Or.inl fun _ e => by cases e
      case qx => k_extra "z"
     case qr =>
      refine' (Ev.mono (Ev.glob (v:=.type "str") G S.e ?g1 (.inr hst) ?g2) fun h v e => .inl (e ▸ .typ _))
      case g1 | g2 => k_extra "kd"
   case ik =>
     k_extra "next"
     show wpAny _ _ (execs (_ :: _ :: _ :: []) env) _ _ _
     refine' Wg (r:=.val (.ref (if b then an else av))) S ?s1 ?s2 rfl ?s3
     case s2 => k_extra "kd"
     case s1 =>
      refine' Ev.ifExpR (b:=b) ?i1 ?i2 ?i3
      case i1 => k_extra "z"
      case i2 =>
       intro hb
       refine' Ev.mono (Ev.glob (v:=.ref an) G S.e ?h1 (.inl hn1) ?h2) fun h v e => ?h3
       case h1 | h2 => k_extra "kd"
       case h3 => rw [hb]; exact e
      case i3 =>
       intro hb
       refine' Ev.mono (Ev.glob (v:=.ref av) G S.e ?h1 (.inl hv1) ?h2) fun h v e => ?h3
       case h1 | h2 => k_extra "kd"
       case h3 => rw [hb]; exact e
     case s3 =>
      k_extra "next"
      have hP : wV B (if b = true then an else av) (if b = true then za else zm):=by
       cases b
       · exact hv2
       · exact hn2
      refine' xn (b:=false) S ?j1 ?j2
      case j1 =>
       refine' Tv.plain (d:=.none) (Ev.rd (Ev.search S.e R' (code:=if b then za else zm) (x:=x) ?k1 ?k2 hP ?k3 hx hs (fun _ => rfl) ?k4)) ym.none rfl
       case k1 => k_extra "mem"
       case k2 => k_extra "kd"
       case k3 => k_extra "z"
       case k4 => rfl
      case j2 =>
       k_extra "next"
       refine zD ?_
       refine' xO (d:=.str x) S ?ra ?rb
       case ra => k_extra "z"
       case rb => exact fun v s' S' r => hQ v s' S'.keeps (r.less S'.more)
theorem jA {α β : Type} {f g : α → Option β} : ∀ {l : List α},(∀ x ∈ l,f x = g x) → l.filterMap f = l.filterMap g
 | [],_ => rfl
 | x :: l,h => by
  rw [filterMap_cons,filterMap_cons,h x (.head _),jA fun y hy => h y (.tail _ hy)]
theorem qD {α : Type} (xs : List α) : (List.range xs.length).filterMap (xs[·]?) = xs:=by
 induction xs with
 | nil => rfl
 | cons x xs ih =>
  rw [length_cons,List.range_succ_eq_map,filterMap_cons]
  simp only [List.getElem?_cons_zero,List.filterMap_map]
  refine congrArg (x :: ·) ?_
  simpa [Function.comp_def] using ih
theorem wH (a b : Nat) : sliceRange (a : Int) (b : Int) 1 = (List.range (b - a)).map fun k => a + k:=by
 unfold sliceRange
 have : (if (1 : Int) > 0 then (if (a : Int) < b then ((b : Int) - a + 1 - 1) / 1 else 0) else (if (a : Int) > b then ((a : Int) - b - 1 - 1) / (-1) else 0)).toNat = b - a:=by
  rw [if_pos (by decide)]
  by_cases h : (a : Int) < b
  · rw [if_pos h,Int.add_sub_cancel,Int.ediv_one,Int.toNat_sub]
  · rw [if_neg h]; exact (Nat.sub_eq_zero_of_le (ofNat_le.mp (not_lt.mp h))).symm
 dsimp only
 rw [this]
 refine map_congr_left fun k _ => ?_
 rw [Int.one_mul,← Int.natCast_add,toNat_natCast]
theorem V8 {α : Type} (xs : List α) : zf xs none none none = xs:=by
 unfold zf sliceBounds
 have:=wH 0 xs.length
 simp only [getD_none,gt_iff_lt,show (0 : Int) < 1 by decide,if_true]
 rw [show (0 : Int) = ((0 : Nat) : Int) from rfl,this]
 simpa using qD xs
theorem QD {α : Type} (xs : List α) (a : Nat) : ((List.range (xs.length - a)).map fun k => a + k).filterMap (xs[·]?) = xs.drop a:=by
 rw [List.filterMap_map]
 have:=qD (xs.drop a)
 rw [List.length_drop] at this
 refine Eq.trans ?_ this
 refine jA fun k _ => ?_
 simp [List.getElem?_drop]
theorem Zw {α : Type} (xs : List α) (b : Nat) (h : b ≤ xs.length) : (List.range b).filterMap (xs[·]?) = xs.take b:=by
 have:=qD (xs.take b)
 rw [length_take,min_eq_left h] at this
 refine Eq.trans ?_ this
 refine jA fun k hk => ?_
 rw [List.getElem?_take,if_pos (mem_range.mp hk)]
theorem WO {α : Type} (xs : List α) (a : Nat) (h : a ≤ xs.length) : zf xs (some (a : Int)) none none = xs.drop a:=by
 unfold zf sliceBounds
 have:=wH a xs.length
 simp only [getD_none,gt_iff_lt,show (0 : Int) < 1 by decide,if_true]
 have e : max 0 (min (if (a : Int) < 0 then (a : Int) + (xs.length : Int) else (a : Int)) (xs.length : Int)) = (a : Int):=by
  rw [if_neg (Vy a),Ku,min_eq_left h]
 rw [e,this]
 exact QD xs a
theorem XX {α : Type} (xs : List α) (b : Nat) : zf xs none (some (b : Int)) none = xs.take b:=by
 unfold zf sliceBounds
 simp only [getD_none,gt_iff_lt,show (0 : Int) < 1 by decide,if_true]
 have e : max 0 (min (if (b : Int) < 0 then (b : Int) + (xs.length : Int) else (b : Int)) (xs.length : Int)) = ((min b xs.length : Nat) : Int):=by
  rw [if_neg (Vy b),Ku]
 rw [e,show (0 : Int) = ((0 : Nat) : Int) from rfl,wH]
 simp only [Nat.sub_zero,zero_add]
 rw [List.map_id']
 rw [Zw xs (min b xs.length) (Nat.min_le_right _ _),List.take_eq_take_min]
 simp
theorem Xw {α : Type} (xs : List α) : zf xs none (some (-1)) none = xs.take (xs.length - 1):=by
 unfold zf sliceBounds
 simp only [getD_none,gt_iff_lt,show (0 : Int) < 1 by decide,if_true]
 have e : max 0 (min (if (-1 : Int) < 0 then (-1 : Int) + (xs.length : Int) else (-1 : Int)) (xs.length : Int)) = ((xs.length - 1 : Nat) : Int):=by
  rw [if_pos (by decide),K4]
 rw [e,show (0 : Int) = ((0 : Nat) : Int) from rfl,wH]
 simp only [Nat.sub_zero,zero_add]
 rw [List.map_id']
 exact Zw xs _ (Nat.sub_le _ _)
theorem VJ : typeLookup (.type "object") (ofString "_convert_string_type") = pure none:=by rw [typeLookup_type,builtinLookup_eq_fast]; kernel_rfl
theorem kN : typeLookup (.type "object") (ofString "_headers") = pure none:=by rw [typeLookup_type,builtinLookup_eq_fast]; kernel_rfl
theorem QW : typeLookup (.type "object") (ofString "items") = pure none:=by rw [typeLookup_type,builtinLookup_eq_fast]; kernel_rfl
theorem jT : typeLookup (.type "object") (ofString "values") = pure none:=by rw [typeLookup_type,builtinLookup_eq_fast]; kernel_rfl
theorem Vg : typeLookup (.type "object") (ofString "get_all") = pure none:=by rw [typeLookup_type,builtinLookup_eq_fast]; kernel_rfl
theorem VP : typeLookup (.type "object") (ofString "add_header") = pure none:=by rw [typeLookup_type,builtinLookup_eq_fast]; kernel_rfl
theorem Ev.conv (H : vr B mg mb C N mN) {names : zE} {env : Env} {ρ : List (Str × RV)} {μ : List (Addr × D)} {A : Around} {h : Heap} {M : Addr → Prop} (S : En prog w B names env h M ρ μ) (R : Rm A 1) {o e ke0 : Expr} {d : D} {L : Addr} {x : Str} {b : Bool} {apos pos kp : Pos} (I : wp prog w d C L)
  (ho : Ev prog w A h o env (PS prog w M d)) (he : Ev prog w A h e env (PS prog w M (.str x))) (hk : Ev prog w A h ke0 env (PS prog w M (.bool b))) (hx : zg (if b then za else zm) x = true) (hs : x.cps.size < 2 ^ 63) {pl : Sem Bool}
  (hst : ∀ rest,starEach (e :: rest) env = (false,eval e env) :: starEach rest env)
  (hev : eval (.Call (.Attribute o (ofString "_convert_string_type") apos) [e] [⟨some (ofString "name"),ke0,kp⟩] pos) env = (do
   let ov ← eval o env
   standAt apos.atName
   let (f,first) ← holding [ov] (getMethod ov (ofString "_convert_string_type") pl)
   callWith pos f first (backTo pos (starEach [e] env)) (backToKw pos (keywordEach [⟨some (ofString "name"),ke0,kp⟩] env)))) :
  Ev prog w A h (.Call (.Attribute o (ofString "_convert_string_type") apos) [e] [⟨some (ofString "name"),ke0,kp⟩] pos) env (PS prog w M (.str x)):=by
 intro s E Q kx hQ
 obtain ⟨f,fd,hf,HF,hb⟩:=H.conv
 have S':=S.ext kx
 refine km (rs:=[.dat (.str x)]) (kr:=.dat (.bool b)) S' (ho.ext kx) I H.cls hf HF H.nga H.nge VJ (by rw [if_neg (by decide)]) (.cons (he.ext kx) .nil hst) (hk.ext kx) (hst []) (fun x' vs kv s' ks rx rs rk => ?_) hev
 refine zP.use1 rs fun v r => ?_
 refine QM H HF hb R (S'.base.trans (ke ks)) (fun a m => by obtain ⟨o,e⟩:=S'.old a m; exact ⟨o,ke ks a o e⟩) r rk hx hs fun v s'' k' rv => hQ v s'' (zA ks k') rv
theorem Ev.hdrs (H : vr B mg mb C N mN) {names : zE} {env : Env} {ρ : List (Str × RV)} {μ : List (Addr × D)} {A : Around} {h : Heap} {M : Addr → Prop} (S : En prog w B names env h M ρ μ) {o : Expr} {d : D} {L : Addr} {pos : Pos} (I : wp prog w d C L)
  (ho : Ev prog w A h o env (PS prog w M d)) (hb : attributeBase o (ofString "_headers") env (eval o env) = eval o env) : Ev prog w A h (.Attribute o (ofString "_headers") pos) env (fun _ u => u = .ref L) :=
 Ev.attr S ho I H.cls hb (by rw [if_pos rfl]) H.nga H.nhd kN rfl
theorem Xm (H : vr B mg mb C N mN) {f : Addr} {fd : FuncData} (HF : zw B (xC 11) f fd) (hb : kM fd) {A : Around} {s : Shared} {M₁ : Addr → Prop} {a : Value} {d : D} {L : Addr} {rows : List D} {Q E : Value → Shared → Prop} (R : Rm A 1) (X : zS B s.heap) (hold : ∀ a,M₁ a → ∃ o,s.heap.get? a = some o)
   (I : wp prog w d C L) (ra : Rp prog w s.heap M₁ a d) (hc : zd prog w s.heap M₁ L (.list rows)) (hz : rows.length ≤ 1000)
   (hQ : ∀ b s',Keeps s s' → s.heap.get? b = none → zd prog w s'.heap (fun c => M₁ c ∨ c = b) b (.list rows) → Q (.ref b) s') : wpAny (model prog w) A (PySem.call (.ref f) [a]) Q E s:=by
 refine wo (args:=⟨[a],[]⟩) (M₁:=M₁) H.G HF (hb s a) (by simp) (by k_extra "kd") R X hold (fun _ => False) (fun _ z => z.elim) [(ofString "self",.dat d)] ?_ [(L,.list rows)] (fun b x m => by cases mem_singleton.mp m; exact hc) (by simp) ?_
 · intro y r hm
   cases mem_singleton.mp hm
   exact ⟨a,.head _,ra⟩
 · intro env Own M s₁ _ R' _ _ S
   have hp : zf rows none none none = rows:=V8 rows
   refine wpAny_execs_cons (wpAny_Return_some ?_)
   refine' kK.slice (lo:=none) (hi:=none) (st:=none) (xs:=rows) S.e ?qv zY.none zY.none zY.none (by decide) (by rw [sizeLine_eq]; k_extra "o") s₁ _ _ (zS.refl _) ?qq
   case qv =>
    refine' Ev.place S.e (Ev.hdrs H S.e I ?qo ?qb) (.head _)
    case qo => k_extra "z"
    case qb => rfl
   case qq =>
    intro b s' ks hn c
    rw [hp] at c
    have k2:=zA S.keeps ks
    refine hQ b s' k2 (z9 S.keeps hn) (c.to (fun o e => e) fun e o m q => ⟨q,fun z => m (z.imp (S.more e) id)⟩)
noncomputable def zy (y : Str × Str) : D:=.tup [.str y.1,.str y.2]
noncomputable abbrev zu (ys : List (Str × Str)) : D:=.list (ys.map zy)
theorem Wp {names : zE} {p1 p2 pos : Pos} {k : Nat} {a b : Str} (y : Str × Str) (hn : ([a,b] : List Str).Nodup) (hk : (zT names a && zT names b) = true) : wu prog w names (.Tuple [.Name a p1,.Name b p2] k pos) (zy y) [(a,.dat (.str y.1)),(b,.dat (.str y.2))]:=by
 refine wu.tuple [(a,p1),(b,p2)] rfl hn ?_ rfl
 simpa using hk
theorem jP (H : vr B mg mb C N mN) {f : Addr} {fd : FuncData} (HF : zw B (xC 10) f fd) (hb : kM fd) {A : Around} {s : Shared} {M₁ : Addr → Prop} {a : Value} {d : D} {L : Addr} {ys : List (Str × Str)} {Q E : Value → Shared → Prop} (R : Rm A 1) (X : zS B s.heap) (hold : ∀ a,M₁ a → ∃ o,s.heap.get? a = some o)
   (I : wp prog w d C L) (ra : Rp prog w s.heap M₁ a d) (hc : zd prog w s.heap M₁ L (zu ys)) (hz : ys.length ≤ 1000)
   (hQ : ∀ v s',Keeps s s' → Rp prog w s'.heap M₁ v (.list (ys.map fun y => .str y.2)) → Q v s') : wpAny (model prog w) A (PySem.call (.ref f) [a]) Q E s:=by
 refine wo (args:=⟨[a],[]⟩) (M₁:=M₁) H.G HF (hb s a) (by simp) (by k_extra "kd") R X hold (fun _ => False) (fun _ z => z.elim) [(ofString "self",.dat d)] ?_ [(L,zu ys)] (fun b x m => by cases mem_singleton.mp m; exact hc) (by simp) ?_
 · intro y r hm
   cases mem_singleton.mp hm
   exact ⟨a,.head _,ra⟩
 · intro env Own M s₁ _ R' _ _ S
   refine' xO S (d:=.list (ys.map fun y => .str y.2)) ?ra (fun v s' S' r => hQ v s' S'.keeps (r.less S'.more))
   case ra =>
    refine' Ev.compM (α:=Str × Str) S.e R' ?hc ?src ys zy (zj.list _) (fun y => [(ofString "k",.dat (.str y.1)),(ofString "v",.dat (.str y.2))]) (fun y => .str y.2) ?asg ?ap (by rw [sizeLine_eq]; k_extra "o") ?fs ?turn
    case hc => k_extra "kd"
    case src =>
     refine' Ev.place S.e (Ev.hdrs H S.e I ?qo ?qb) (.head _)
     case qo => k_extra "z"
     case qb => rfl
    case asg => exact fun y _ => Wp y (by decide) (by k_extra "kd")
    case ap => exact yo fun y => by k_extra "kd"
    case fs => k_extra "fs"
    case turn =>
     intro y hy env' h' M' kx hE
     k_extra "z"
noncomputable def xE (x : Str) : Bool:=!Builtin.Str.tooLong (zb x).cps.size
theorem Ev.lower {names : zE} {env : Env} {ρ : List (Str × RV)} {μ : List (Addr × D)} {A : Around} {h : Heap} {M : Addr → Prop} (S : En prog w B names env h M ρ μ) (R : Rm A 0) {o : Expr} {apos pos : Pos} {x : Str} (ho : Ev prog w A h o env (PR prog w M (.str x))) (hx : xE x = true) (hb : attributeBase o (ofString "lower") env (eval o env) = eval o env) (hl : (apos.endLine == pos.line) = true) :
  Ev prog w A h (.Call (.Attribute o (ofString "lower") apos) [] [] pos) env (PS prog w M (.str (zb x))) :=
 Ev.meth S R ho rfl F.plainAttrs_str F.slot_str_lower F.type_str_lower .nil hb (by decide) hl (zG.lower x (by simpa [xE] using hx))
theorem V5 (H : vr B mg mb C N mN) {f : Addr} {fd : FuncData} (HF : zw B (xC 7) f fd) (hb : ∀ s a v,BindsTo s fd ⟨[a,v],[]⟩ [(ofString "self",a),(ofString "name",v)]) {A : Around} {s : Shared} {M₁ : Addr → Prop} {a vn : Value} {d : D} {L : Addr} {ys : List (Str × Str)} {nm : Str} {Q E : Value → Shared → Prop} (R : Rm A 2) (X : zS B s.heap) (hold : ∀ a,M₁ a → ∃ o,s.heap.get? a = some o)
   (I : wp prog w d C L) (ra : Rp prog w s.heap M₁ a d) (rn : Rp prog w s.heap M₁ vn (.str nm)) (hc : zd prog w s.heap M₁ L (zu ys)) (hz : ys.length ≤ 1000) (hl : xE nm = true) (hx : zg za (zb nm) = true) (hs : (zb nm).cps.size < 2 ^ 63) (hys : ∀ y ∈ ys,xE y.1 = true)
   (hQ : ∀ v s',Keeps s s' → Rp prog w s'.heap M₁ v (.list ((ys.filter fun y => zb y.1 == zb nm).map fun y => .str y.2)) → Q v s') : wpAny (model prog w) A (PySem.call (.ref f) [a,vn]) Q E s:=by
 refine wo (args:=⟨[a,vn],[]⟩) (M₁:=M₁) H.G HF (hb s a vn) (by simp only [map_cons,map_nil]; decide) (by k_extra "kd") R X hold (fun _ => False) (fun _ z => z.elim) [(ofString "self",.dat d),(ofString "name",.dat (.str nm))] ?_ [(L,zu ys)] (fun b x m => by cases mem_singleton.mp m; exact hc) (by simp) ?_
 · refine all_cons ?_ (all_cons ?_ all_nil)
   · exact ⟨a,.head _,ra⟩
   · exact ⟨vn,yY,rn⟩
 · intro env Own M s₁ _ R' _ _ S
   have R0 : Rm (A.deeper env) 0:=R'.le (zero_le _)
   refine' z7 (d:=.str (zb nm)) S ?sa ?sb rfl ?sd
   case sb => k_extra "kd"
   case sa =>
     refine' Ev.conv (b:=true) H S.e R' I ?qo (Ev.lower S.e R0 ?o2 hl rfl rfl) ?kb hx hs (fun _ => rfl) rfl
     case qo | o2 | kb => k_extra "z"
   case sd =>
     k_extra "next"
     refine' xO S (d:=.list ((ys.filter fun y => zb y.1 == zb nm).map fun y => .str y.2)) ?ra (fun v s' S' r => hQ v s' S'.keeps (r.less S'.more))
     case ra =>
      refine' Ev.comp1F (α:=Str × Str) S.e R0 ?hc ?src ys zy (zj.list _) (fun y => zb y.1 == zb nm) (fun y => .str y.2) ?hx (by rw [sizeLine_eq]; k_extra "o") ?fs ?turn
      case hc => k_extra "kd"
      case src =>
       refine' Ev.place S.e (Ev.hdrs H S.e I ?qo ?qb) (.head _)
       case qo => k_extra "z"
       case qb => rfl
      case hx => k_extra "kd"
      case fs => k_extra "fs"
      case turn =>
       intro y hy env' h' M' kx hE
       have it : ∀ (i : Int) (j : Nat) (x : Str) (p q : Pos) (e : Expr),Ev prog w (A.deeper env) h' e env' (PR prog w M' (.int i)) → seqIndex? i 2 = some j → ([D.str y.1,D.str y.2] : List D)[j]? = some (.str x) → -(2 ^ 63) ≤ i → i < 2 ^ 63 → Ev prog w (A.deeper env) h' (.Subscript (.Name (ofString "kv") p) e q) env' (PS prog w M' (.str x)):=by
        intro i j x p q e he hj hx h0 h1
        refine' Ev.itemT (xs:=[.str y.1,.str y.2]) ?qv he h0 h1 hj hx
        case qv => exact Ev.rd (Ev.name hE (d:=zy y) (.head _) (by decide))
       refine ⟨xl.one ?qt,fun _ => ?qe⟩
       case qt =>
        refine' Tv.cmp R0 (Ev.rd (Ev.lower hE R0 (Ev.rd (it 0 0 y.1 _ _ _ ?i0 rfl rfl (by decide) (by decide))) (hys y hy) rfl rfl)) ?qr (zN.eqS _ _) rfl
        case i0 | qr => k_extra "z"
       case qe =>
        refine' it 1 1 y.2 _ _ _ ?i1 rfl rfl (by decide) (by decide)
        case i1 => k_extra "z"
noncomputable def jc : Str:=ofString "; "
theorem ZS (H : vr B mg mb C N mN) {f : Addr} {fd : FuncData} (HF : zw B (xC 16) f fd) (hb : ∀ (s : Shared) (a n v : Value) (M : Model) (A : Around) (E : Value → Shared → Prop) (Q : List (Str × Value) → Shared → Prop),
     Q [(ofString "self",a),(ofString "_name",n),(ofString "_value",v),(ofString "_params",.ref s.heap.objs.size)] { s with heap:=s.heap.push vv } → wpAny M A (bindArgs fd ⟨[a,n,v],[]⟩) Q E s)
   {A : Around} {s : Shared} {M₁ : Addr → Prop} {a vn vt : Value} {d : D} {L : Addr} {rows : List D} {nm tx : Str} {Q E : Value → Shared → Prop} (R : Rm A 2) (X : zS B s.heap) (hold : ∀ a,M₁ a → ∃ o,s.heap.get? a = some o)
   (I : wp prog w d C L) (ra : Rp prog w s.heap M₁ a d) (rn : Rp prog w s.heap M₁ vn (.str nm)) (rt : Rp prog w s.heap M₁ vt (.str tx)) (hL : M₁ L) (hLB : B.get? L = none) (hc : zd prog w s.heap M₁ L (.list rows)) (hz : rows.length ≤ 1000) (hsys : B.get? sysModules ≠ none)
   (hx : zg za nm = true) (hs : nm.cps.size < 2 ^ 63) (hx2 : zg zm tx = true) (hs2 : tx.cps.size < 2 ^ 63) (hj : yG jc [tx] = true)
   (hQ : ∀ s',Xj [L] s s' → zd prog w s'.heap M₁ L (.list (rows ++ [.tup [.str nm,.str tx]])) → Q .none s') : wpAny (model prog w) A (PySem.call (.ref f) [a,vn,vt]) Q E s:=by
 have kp : Keeps s { s with heap:=s.heap.push vv }:=zM s vv s.toks
 have hnD : ¬ M₁ s.heap.objs.size:=fun m => by obtain ⟨o,e⟩:=hold _ m; exact absurd (lt_size e) (lt_irrefl _)
 have hDs : (s.heap.objs.size == sysModules) = false:=by
   cases q : s.heap.objs.size == sysModules with
   | false => rfl
   | true =>
     exfalso
     cases e : B.get? sysModules with
     | none => exact hsys e
     | some o => have:=lt_size (X _ _ e); rw [beq_iff_eq.mp q] at this; exact absurd this (lt_irrefl _)
 refine JK (sa:=s) (args:=⟨[a,vn,vt],[]⟩) (M₁:=M₁) H.G HF kp (fun M A E Q hq => hb s a vn vt M A E Q hq) (by simp only [map_cons,map_nil]; decide) (by k_extra "kd") R X (fun b m => by obtain ⟨o,e⟩:=hold b m; exact ⟨o,ke kp b o e⟩) (fun b => b = L) (fun b z => by subst z; exact ⟨hL,hLB⟩)
   [(ofString "self",.dat d),(ofString "_name",.dat (.str nm)),(ofString "_value",.dat (.str tx)),(ofString "_params",.dat (.ob s.heap.objs.size vv))] ?_ [(L,.list rows)] (fun b x m => by cases mem_singleton.mp m; exact hc.ext (ke kp)) (by simp) ?_
 · refine all_cons ?_ (all_cons ?_ (all_cons ?_ (all_cons ?_ all_nil)))
   · exact ⟨a,.head _,ra.ext (ke kp)⟩
   · exact ⟨vn,yY,rn.ext (ke kp)⟩
   · exact ⟨vt,wM,rt.ext (ke kp)⟩
   · exact ⟨_,qE,.ob (get?_push_size _ rfl) hnD⟩
 · intro env Own M s₁ _ R' hO hMM S
   have R0 : Rm (A.deeper env) 0:=R'.le (zero_le _)
   have hOL : Own L:=hO L rfl
   refine' wC S ?nA ?nB ?nC ?nD
   case nB => k_extra "kd"
   case nC => rfl
   case nA => k_extra "z"
   clear S
   intro p s' hp S
   show wpAny _ _ (execs (_ :: _ :: _ :: []) env) _ _ _
   refine' xn (b:=!false) S ?it ?ik
   case it => k_extra "z"
   case ik =>
     k_extra "next"
     show wpAny _ _ (execs (_ :: _ :: []) env) _ _ _
     refine' z7 (d:=.str tx) S ?sa ?sb rfl ?sd
     case sb => k_extra "kd"
     case sa =>
      refine' Ev.conv (b:=false) H S.e R' I ?qo ?o2 ?kb hx2 hs2 (fun _ => rfl) rfl
      case qo | o2 | kb => k_extra "z"
     case sd =>
      k_extra "next"
      k_extra "mut0"
      refine zD ?_
      show wpAny _ _ (execs (_ :: _ :: []) env) _ _ _
      refine' qB (a:=s.heap.objs.size) S R0 ?f1 ?f2 ?f3 hDs ?f4 ?f5
      case f1 => k_extra "mem"
      case f2 => k_extra "kd"
      case f3 => rfl
      case f4 => k_extra "fs"
      case f5 =>
       k_extra "next"
       rw [nil_append,nil_append] at S
       show wpAny _ _ (execs (_ :: []) env) _ _ _
       refine' KT (pre:=[(p,.list [.str tx])]) (post:=[]) (d:=.list rows) (ds:=[.tup [.str nm,.str tx]]) S R0 ?g1 rfl (.inl hOL) rfl ?g2 ?g3 ?g4 ?g5 (by rfl) (by rfl) (by rfl) (wI.append _ _ (by rw [sizeLine_eq]; k_extra "o")) (by rfl) ?g6
       case g1 =>
        refine' Ev.hdrs H S.e I ?qo ?qb
        case qo => k_extra "z"
        case qb => rfl
       case g2 => k_extra "pa"
       case g3 => k_extra "slot"
       case g4 => k_extra "mty"
       case g5 =>
        refine .cons (Ev.tuple S.e (.cons ?t1 (.cons ?t2 .nil (fun _ => rfl)) (fun _ => rfl)) (by rw [sizeLine_eq]; simp)) .nil (fun _ => rfl)
        case t1 =>
         refine' Ev.conv (b:=true) H S.e R' I ?qo ?o2 ?kb hx hs (fun _ => rfl) rfl
         case qo | o2 | kb => k_extra "z"
        case t2 =>
         refine' Ev.meth S.e R0 (dr:=.str jc) (ds:=[.list ([tx].map .str)]) (d:=.str tx) ?mo rfl ?mp ?ms ?mt ?mx (by rfl) (by decide) (by rfl) (zG.join jc [tx] hj)
         case mo => k_extra "z"
         case mp => k_extra "pa"
         case ms => k_extra "slot"
         case mt => k_extra "mty"
         case mx =>
          refine .cons (Ev.nameM S.e ?n1 (.head _) ?n2) .nil fun _ => rfl
          case n1 => k_extra "mem"
          case n2 => k_extra "kd"
       case g6 =>
        intro s₂ S₂
        refine zD ?_
        obtain ⟨h',tk,kk⟩:=S₂.eff
        refine hQ s₂ ?_ ((S₂.e.mem L _ yY).to (fun _ e => e) fun b o m e => ⟨e,fun z => m (.inl (by first | exact S₂.more b z | exact absurd z (fun z => m (S₂.more b z))))⟩)
        exact ⟨h',tk,kk.1,fun b o n e => kk.2 b o n (ke kp b o e)⟩
theorem zAW {h : Heap} {x L : Addr} {M : Addr → Prop} (I : h.InstFk x C (fun y => if y = ofString "_headers" then some (.ref L) else none)) (hx : ¬ M x) (hd : ∀ dx o,h.get? x = some o → o.dict = some dx → ¬ M dx) : ∃ d,wp prog w d C L ∧ Rp prog w h M (.ref x) d:=by
 obtain ⟨ox,e1,e2,e3,e4⟩:=I
 rcases e4 with ⟨_,e4⟩ | ⟨dx,e4,e5,⟨od,es,ep,n1,n2⟩,e6⟩
 · have:=e4 (ofString "_headers"); simp at this
 · refine ⟨.obs x ox [(dx,od)],fun h2 M2 v r => ?_,.obs e1 hx fun p hp => ?_⟩
   · obtain ⟨rfl,q1,_,q2⟩:=r.obs_inv
     have q3:=(q2 _ (.head _)).1
     refine ⟨x,rfl,ox,q1,e2,e3,.inr ⟨dx,e4,e5,⟨od,es,ep,q3,n2⟩, ?_⟩⟩
     obtain ⟨od',m1,m2⟩:=e6
     rw [n1] at m1; cases m1
     exact ⟨od,q3,m2⟩
   · cases mem_singleton.mp hp
     exact ⟨n1,hd dx ox e1 e4⟩
theorem Ym {B : Heap} {s : Shared} {f : Addr} {fd : FuncData} (H : zw B (xC 0) f fd) (D : zAi B fd) (X : zS B s.heap) (a : Value) : BindsTo s fd ⟨[a],[]⟩ [(ofString "self",a),(ofString "headers",.none)]:=by
 have hp:=H.args
 clear H
 obtain ⟨hk,T,o,n,hd,ho,hs⟩:=D
 rw [Z1 hp hd hk]
 exact .of_defaults rfl (X _ _ ho) hs rfl rfl
theorem kK.ifExp {A : Around} {h : Heap} {env : Env} {M : Addr → Prop} {t x y : Expr} {p : Pos} {b : Bool} {d : D} (ht : Tv prog w A h t env b) (hx : b = true → kK prog w A h x env M d) (hy : b = false → kK prog w A h y env M d) : kK prog w A h (.IfExp t x y p) env M d:=by
 intro s E Q k hQ
 refine wpAny_IfExp (ht s E _ k fun s₁ k₁ => ?_)
 cases b with
 | true => exact hx rfl s₁ E Q (k.trans (ke k₁)) fun a s₃ k₃ n c => hQ a s₃ (zA k₁ k₃) (z9 k₁ n) c
 | false => exact hy rfl s₁ E Q (k.trans (ke k₁)) fun a s₃ k₃ n c => hQ a s₃ (zA k₁ k₃) (z9 k₁ n) c
theorem Vt (H : vr B mg mb C N mN) {A : Around} {s : Shared} {M₁ : Addr → Prop} {Q E : Value → Shared → Prop} (R : ∀ vs,Rm (A.under (.builtin "type.__call__" ⟨.ref C :: vs,[]⟩)) 2) (X : zS B s.heap) (hold : ∀ a,M₁ a → ∃ o,s.heap.get? a = some o)
   (hQ : ∀ x d L s',Keeps s s' → s.heap.get? L = none → zd prog w s'.heap (fun b => M₁ b ∨ b = L) L (.list []) → wp prog w d C L → Rp prog w s'.heap (fun b => M₁ b ∨ b = L) (.ref x) d → Q (.ref x) s') : wpAny (model prog w) A (PySem.call (.ref C) []) Q E s:=by
 obtain ⟨f,fd,hi,HF,hb⟩:=H.init
 obtain ⟨of,hof,hofd,hofc⟩:=HF.get
 have X':=X
 obtain ⟨hp,g,dr,tk,os⟩:=s
 have XC:=H.cls.keeps X
 obtain ⟨nm,q,bs,sn,sub,col,dd,k0,k1,k2,k3,k5,hC⟩:=XC.obj
 refine wpAny_call_obj_initFk PySem.F.objNew hC XC.ns hi (X _ _ hof) hofc fun h' x dx Mk => ?_
 have kp : Keeps (⟨hp,g,dr,tk,os⟩ : Shared) ⟨h',g,dr,tk,os⟩:=⟨h',tk,rfl,Mk.keeps⟩
 have hnx : ¬ M₁ x:=fun m => by obtain ⟨o,e⟩:=hold _ m; exact X3 Mk.newX e
 have hnd : ¬ M₁ dx:=fun m => by obtain ⟨o,e⟩:=hold _ m; exact X3 Mk.newD e
 refine wo (args:=⟨[.ref x],[]⟩) (s:=⟨h',g,dr,tk,os⟩) (M₁:=M₁) H.G HF (Ym (s:=⟨h',g,dr,tk,os⟩) HF hb (X.trans (ke kp)) (.ref x)) (by simp only [map_cons,map_nil]; decide) (by k_extra "kd") (R _) (X.trans (ke kp)) (fun b m => by obtain ⟨o,e⟩:=hold b m; exact ⟨o,Mk.keeps b o e⟩) (fun _ => False) (fun _ z => z.elim) [(ofString "self",.val (.ref x)),(ofString "headers",.dat .none)] ?_ [] (fun b z m => (nomatch m)) nodup_nil ?_
 · refine all_cons ?_ (all_cons ?_ all_nil)
   · exact ⟨_,.head _,rfl⟩
   · exact ⟨_,yY,.none⟩
 · intro env Own M s₁ hLe R' _ hMM S
   obtain ⟨Lf,rfl⟩:=hLe
   have R0 : Rm ((A.under (.builtin "type.__call__" ⟨[.ref C],[]⟩)).deeper (zW fd Lf f)) 0:=R'.le (zero_le _)
   have G:=H.G
   have hty:=H.ty
   have hli:=H.li
   refine' wC (d:=.list []) S ?s1 ?s2 rfl ?s3
   case s2 => k_extra "kd"
   case s1 =>
     refine' kK.ifExp (b:=!true) ?i1 (fun h => by cases h) fun _ => ?i3
     case i1 =>
      refine' Tv.cmp (da:=.none) (db:=.none) R0 ?j1 ?j2 (zN.isNot rfl) rfl
      case j1 | j2 => k_extra "z"
     case i3 => k_extra "z"
   case s3 =>
     intro L s' hLM S'
     have hLn : h'.get? L = none:=by
      rcases S'.fresh L (.inr rfl) with z | z
      · exact z.elim
      · exact z
     clear S
     have S:=S'
     clear S'
     show wpAny _ _ (execs (_ :: _ :: _ :: []) _) _ _ _
     refine' xn (b:=!true) S ?it ?ik
     case it =>
      refine' Tv.cmp (da:=.typ "list") (db:=.typ "list") R0 ?ql ?qr (zN.isNot rfl) rfl
      case ql =>
        refine' Ev.rd (Ev.call S.e R0 ?qf ?K ?qx (zG.typeL []))
        case qf => k_extra "z"
        case K => exact Or.inl fun _ e => by cases e
        case qx => k_extra "z"
      case qr =>
        refine' (Ev.mono (Ev.glob (v:=.type "list") G S.e ?g1 (.inr hli) ?g2) fun h v e => .inl (e ▸ .typ _))
        case g1 | g2 => k_extra "kd"
     case ik =>
      k_extra "next"
      refine zD ?_
      show wpAny _ _ (execs (_ :: _ :: []) _) _ _ _
      have Xs:=S.e.base
      have XC2:=H.cls.keeps Xs
      obtain ⟨nm2,q2,bs2,sn2,sub2,col2,dd2,k02,k12,k22,k32,k52,hC2⟩:=XC2.obj
      have kS:=S.keeps
      have ix:=Mk.inst.keeps (ke kS)
      have hxC : x ≠ C:=fun z => X3 Mk.newX (by rw [z]; exact hC)
      obtain ⟨ox0,hx0⟩ : ∃ o,h'.get? x = some o:=by obtain ⟨o,e,_⟩:=Mk.inst; exact ⟨o,e⟩
      have hdx0:=Mk.dict ox0 hx0
      have hLf : ∀ z,zO (zR (xC 0)).names (zW fd Lf f) z → z ≠ x ∧ z ≠ dx:=fun z hz => by
        rcases S.fresh z (S.fr z hz) with q | q
        · exact q.elim
        · refine ⟨fun e => ?_,fun e => ?_⟩
          · rw [e] at q; rw [show h'.get? x = none from q] at hx0; cases hx0
          · rw [e] at q
            obtain ⟨o,e1,e2,e3,e4⟩:=Mk.inst
            rcases e4 with ⟨e4,_⟩ | ⟨d2,e4,_,⟨od,es,ep,n1,_⟩,_⟩
            · rw [Mk.dict o e1] at e4; cases e4
            · rw [Mk.dict o e1] at e4; cases e4
              exact X3 (show h'.get? dx = none from q) n1
      refine wpAny_execs_cons (plainObj_wpAny_Assign_Attribute ?_ rfl)
      refine Ev.var (x:=ofString "headers") (r:=.adr L) S.e ?v1 ?v2 _ _ _ (zS.refl _) fun v s₂ k₂ r => ?_
      case v1 => k_extra "mem"
      case v2 => k_extra "kd"
      have r : v = .ref L:=r
      subst r
      refine Ev.var (x:=ofString "self") (r:=.val (.ref x)) (S.step k₂).e ?v1 ?v2 _ _ _ (zS.refl _) fun v s₃ k₃ r => ?_
      case v1 => k_extra "mem"
      case v2 => k_extra "kd"
      have r : v = .ref x:=r
      subst r
      have k23:=zA k₂ k₃
      have S₃:=S.step k23
      have ix3:=ix.keeps (ke k23)
      obtain ⟨hp3,g3,dr3,tk3,os3⟩:=s₃
      refine store_attrFk PySem.F.store_object (ke k23 _ _ hC2) (XC2.keeps (ke k23)).ns H.nse H.nhd kN hxC ix3 fun h4 tk4 I4 kk4 hs4 => ?_
      have hx3 : hp3.get? x = some ox0:=ke k23 _ _ (ke kS _ _ hx0)
      have keep4 : ∀ b o,b ≠ x → b ≠ dx → hp3.get? b = some o → h4.get? b = some o:=fun b o n1 n2 e => kk4 b o n1 (fun o₀ d' e₀ ed => by
        rw [hx3] at e₀; cases e₀; rw [hdx0] at ed; cases ed; exact n2) e
      obtain ⟨v,hv,hr⟩:=S₃.e.vars (ofString "headers") (.adr L) (by k_extra "mem")
      have hr : v = .ref L:=hr
      subst hr
      have hv4 : yL (zW fd Lf f) h4 (ofString "headers") (.ref L):=by
        rcases hv with ⟨a,m,n,e1⟩ | ⟨a,c1,e1,o,q1,q2⟩
        · exact .inl ⟨a,m,n.at' fun o e => keep4 _ o (hLf _ (.inl rfl)).1 (hLf _ (.inl rfl)).2 e,e1⟩
        · exfalso
          have hlo:=S₃.e.n.lo (ofString "headers") (by k_extra "kd")
          rcases a with a | ⟨a,_⟩ <;> (rw [hlo] at a; cases a)
      obtain ⟨us,pl,rs⟩:=(S₃.e.mem L _ (.head _)).list_inv
      have hus : us = []:=by cases rs; rfl
      subst hus
      have pl4 : h4.PlainList L #[]:=pl.at fun o e => keep4 L o (fun z => by
        obtain ⟨n,pl⟩:=pl
        have pl : hp3.get? L = _:=pl
        obtain ⟨o',e1',e2',_⟩:=ix3
        have e1' : hp3.get? x = some o':=e1'
        rw [z,e1'] at pl; cases pl; cases e2') (fun z => by
        obtain ⟨n,pl⟩:=pl
        have pl : hp3.get? L = _:=pl
        obtain ⟨o',e1',_,_,e4'⟩:=ix3
        rw [hx3] at e1'; cases e1'
        rcases e4' with ⟨e4',_⟩ | ⟨d2,e4',_,⟨od,es,ep,n1,n2,_⟩,_⟩
        · rw [hdx0] at e4'; cases e4'
        · rw [hdx0] at e4'; cases e4'
          have n1 : hp3.get? dx = some od:=n1
          rw [z,n1] at pl; cases pl; cases n2) e
      refine wpAny_execs_cons (wpAny_If (Tv.plain (M:=fun _ => False) (h:=h4) (d:=.bool true) (Ev.rd (Ev.const_bool _ _ _)) (ym.bool _) rfl _ _ _ (zS.refl _) fun s₅ k₅ => ?_))
      show wpAny _ _ (execs (_ :: []) _) _ _ _
      obtain ⟨h5,tk5,rfl,kk5⟩:=k₅
      refine wpAny_execs_cons (wpAny_For (YT S₃.e.n (hv4.ext kk5) (by decide) ?_) (by intro y; rfl))
      have pl5 : h5.PlainList L #[]:=pl4.at fun o e => kk5 L o e
      refine wpAny_pyIter_list pl5.isList ?_
      have hne : L ≠ h5.objs.size:=by obtain ⟨n,e⟩:=pl5; exact ne_of_lt (lt_size e)
      have W:=Walks.list (prog:=prog) (w:=w) R0.hh h5.objs.size L hne #[]
      refine codeAny_forLoop_any (fun n s' => s' = { heap:=h5.push { cls:=.type "list_iterator",data:=.fields #[.ref L,.int 0 0] },gens:=g3,drawn:=dr3,toks:=tk5,os:=os3 }) ?_ 0 rfl
      rintro n s' rfl
      refine W.done _ _ _ ⟨⟨_,get?_push_size _ rfl,rfl,rfl⟩,pl5.isList.push _⟩ fun h6 tk6 hk6 => ?_
      refine wpAny_execs_nil (wpAny_execs_nil (wpAny_execs_nil ⟨rfl, ?_⟩))
      have k46 : ∀ b o,h4.get? b = some o → h6.get? b = some o:=fun b o e => by
        have e5:=kk5 b o e
        refine hk6 b o (fun z => ?_) (get?_push_of_some _ e5)
        rw [mem_singleton.mp z] at e5
        exact absurd (lt_size e5) (lt_irrefl _)
      obtain ⟨h3',tk3',e3⟩:=S₃.same
      cases e3
      obtain ⟨o1,w1,w2,w3,w4,w5⟩:=hs4 ox0 hx3
      obtain ⟨d,hd1,hd2⟩:=zAW (prog:=prog) (w:=w) (M:=fun b => M₁ b ∨ b = L) (I4.keeps k46) (fun z => z.elim hnx fun z => by rw [z,hLn] at hx0; cases hx0) (fun d' o e1 e2 => by
        have:=k46 x o1 w1
        rw [this] at e1; cases e1
        rw [w5 dx hdx0] at e2; cases e2
        refine fun z => z.elim hnd fun z => ?_
        obtain ⟨o9,q1,q2,q3,q4⟩:=Mk.inst
        rcases q4 with ⟨q4,_⟩ | ⟨d2,q4,_,⟨od,es,ep,n1,_⟩,_⟩
        · rw [Mk.dict o9 q1] at q4; cases q4
        · rw [Mk.dict o9 q1] at q4; cases q4
          rw [z,hLn] at n1; cases n1)
      have hLn0 : hp.get? L = none:=by
        cases e : hp.get? L with
        | none => rfl
        | some o => have:=Mk.keeps _ _ e; rw [hLn] at this; cases this
      refine hQ x d L _ ⟨h6,tk6,rfl,fun b o e => ?_⟩ hLn0 (.list (vs:=[]) (pl5.at fun o e => hk6 L o (fun z => hne (mem_singleton.mp z)) (get?_push_of_some _ e)) .nil) hd1 hd2
      refine k46 b o (keep4 b o (fun z => ?_) (fun z => ?_) (ke k23 b o (ke kS b o (Mk.keeps b o e))))
      · exact X3 Mk.newX (by rw [← z]; exact e)
      · exact X3 Mk.newD (by rw [← z]; exact e)
theorem VE {y a b : Nat} : y &&& (a &&& b) = y ↔ y &&& a = y ∧ y &&& b = y:=by
 constructor
 · intro h
   refine ⟨?_, ?_⟩
   · rw [← h]; apply Nat.eq_of_testBit_eq; intro i; simp only [Nat.testBit_and]; cases y.testBit i <;> cases a.testBit i <;> cases b.testBit i <;> rfl
   · rw [← h]; apply Nat.eq_of_testBit_eq; intro i; simp only [Nat.testBit_and]; cases y.testBit i <;> cases a.testBit i <;> cases b.testBit i <;> rfl
 · rintro ⟨h,k⟩; rw [← Nat.and_assoc,h,k]
theorem Vl {a b c : Nat} (h : a &&& b = a) (k : b &&& c = b) : a &&& c = a:=by rw [← h,Nat.and_assoc,k]
theorem vC {a b : Nat} (h : a &&& b = a) (k : b &&& a = b) : a = b:=by rw [← h,Nat.and_comm,k]
theorem sub_lt {a b : Nat} (h : a &&& b = a) (k : b < 16) : a < 16:=by have:=Nat.and_le_right (n:=a) (m:=b); omega
theorem zBe {a : Nat} (h : a < 16) : a &&& 15 = a:=by rw [show (15 : Nat) = 2 ^ 4 - 1 from rfl,Nat.and_two_pow_sub_one_eq_mod]; exact Nat.mod_eq_of_lt h
noncomputable def zI (rows : List Nat) (x : Nat) : Nat:=rows.foldl (fun sh r => if (r &&& x == x) = true then sh &&& r else sh) 15
theorem w7 (rows : List Nat) (r x : Nat) : zI (rows ++ [r]) x = if (r &&& x == x) = true then zI rows x &&& r else zI rows x:=by
 unfold zI; rw [foldl_append]; rfl
theorem xB (x y : Nat) (hy : y < 16) (rows : List Nat) : y &&& zI rows x = y ↔ ∀ r ∈ rows,x &&& r = x → y &&& r = y:=by
 suffices h : ∀ (rows : List Nat) (a : Nat),y &&& rows.foldl (fun sh r => if (r &&& x == x) = true then sh &&& r else sh) a = y ↔ y &&& a = y ∧ ∀ r ∈ rows,x &&& r = x → y &&& r = y by
  have:=h rows 15
  rw [zBe hy] at this
  simpa [zI] using this
 intro rows
 induction rows with
 | nil => intro a; simp
 | cons r rows ih =>
  intro a
  rw [foldl_cons,ih]
  by_cases hr : (r &&& x == x) = true
  · rw [if_pos hr,VE]
    have hr' : x &&& r = x:=by rw [Nat.and_comm]; exact beq_iff_eq.mp hr
    simp only [mem_cons]
    constructor
    · rintro ⟨⟨h1,h2⟩,h3⟩
      exact ⟨h1,fun s hs hx => hs.elim (fun e => e ▸ h2) fun hs => h3 s hs hx⟩
    · rintro ⟨h1,h2⟩
      exact ⟨⟨h1,h2 r (.inl rfl) hr'⟩,fun s hs hx => h2 s (.inr hs) hx⟩
  · rw [if_neg hr]
    have hr' : ¬ x &&& r = x:=fun z => hr (by rw [Nat.and_comm,z]; exact beq_self_eq_true x)
    simp only [mem_cons]
    constructor
    · rintro ⟨h1,h3⟩
      exact ⟨h1,fun s hs hx => hs.elim (fun e => absurd (e ▸ hx) hr') fun hs => h3 s hs hx⟩
    · rintro ⟨h1,h2⟩
      exact ⟨h1,fun s hs hx => h2 s (.inr hs) hx⟩
theorem yU (rows : List Nat) (x : Nat) : zI rows x < 16:=by
 suffices h : ∀ (rows : List Nat) (a : Nat),a < 16 → rows.foldl (fun sh r => if (r &&& x == x) = true then sh &&& r else sh) a < 16 from h rows 15 (by decide)
 intro rows
 induction rows with
 | nil => intro a h; exact h
 | cons r rows ih =>
  intro a h
  rw [foldl_cons]
  apply ih
  split
  · exact lt_of_le_of_lt Nat.and_le_left h
  · exact h
theorem z8 {x : Nat} (hx : x < 16) (rows : List Nat) : x &&& zI rows x = x:=(xB x x hx rows).mpr fun _ _ h => h
theorem yI {rows : List Nat} {x r : Nat} (hr : r ∈ rows) (h : x &&& r = x) : zI rows x &&& r = zI rows x :=
 (xB x (zI rows x) (yU rows x) rows).mp (Nat.and_self _) r hr h
theorem x7 {rows rows' : List Nat} (h : ∀ r ∈ rows,r ∈ rows') (x : Nat) : zI rows' x &&& zI rows x = zI rows' x :=
 (xB x _ (yU rows' x) rows).mpr fun r hr hx => yI (h r hr) hx
theorem vF (rows : List Nat) {x y : Nat} (h : x &&& y = x) : zI rows x &&& zI rows y = zI rows x :=
 (xB y _ (yU rows x) rows).mpr fun r hr hy => yI hr (Vl h hy)
theorem jl {x : Nat} (hx : x < 16) (rows : List Nat) : zI rows (zI rows x) = zI rows x:=by
 refine vC ?_ (z8 (yU rows x) rows)
 refine (xB x _ (yU rows _) rows).mpr fun r hr h => ?_
 exact yI hr (yI hr h)
theorem wF {rows rows' : List Nat} (h : ∀ r ∈ rows,r ∈ rows') {x : Nat} (hx : x < 16) (c : zI rows x = x) : zI rows' x = x:=by
 refine vC ?_ (z8 hx rows')
 have:=x7 h x
 rw [c] at this; exact this
noncomputable def yE (acc : List Nat) (z : Nat) : List Nat:=if acc.contains z = true then acc else acc ++ [z]
noncomputable def kC (shut : List Nat) (row : Nat) : List Nat:=shut.foldl (fun acc one => yE acc (one &&& row)) shut
noncomputable def yq (rows : List Nat) : List Nat:=rows.foldl kC [15]
theorem Y9 {acc : List Nat} {z y : Nat} : y ∈ yE acc z ↔ y ∈ acc ∨ y = z:=by
 unfold yE
 by_cases h : acc.contains z = true
 · rw [if_pos h]
   have hz : z ∈ acc:=by simpa using h
   exact ⟨.inl,fun q => q.elim _root_.id fun e => e ▸ hz⟩
 · rw [if_neg h]; simp
theorem ZF {acc : List Nat} {z : Nat} (h : acc.Nodup) : (yE acc z).Nodup:=by
 unfold yE
 by_cases hz : acc.contains z = true
 · rw [if_pos hz]; exact h
 · rw [if_neg hz]
   rw [nodup_append]
   refine ⟨h,by simp,fun a ha b hb e => hz ?_⟩
   rw [mem_singleton.mp hb] at e
   simpa [← e] using ha
theorem jY (row : Nat) : ∀ (l acc : List Nat),acc.Nodup → (l.foldl (fun acc one => yE acc (one &&& row)) acc).Nodup ∧ ∀ y,y ∈ l.foldl (fun acc one => yE acc (one &&& row)) acc ↔ y ∈ acc ∨ ∃ one ∈ l,y = one &&& row
 | [],acc,h => ⟨h,fun y => by simp⟩
 | o :: l,acc,h => by
  rw [foldl_cons]
  obtain ⟨h1,h2⟩:=jY row l (yE acc (o &&& row)) (ZF h)
  refine ⟨h1,fun y => ?_⟩
  rw [h2,Y9]
  constructor
  · rintro ((h | h) | ⟨z,hz,e⟩)
    · exact .inl h
    · exact .inr ⟨o,.head _,h⟩
    · exact .inr ⟨z,.tail _ hz,e⟩
  · rintro (h | ⟨z,hz,e⟩)
    · exact .inl (.inl h)
    · rcases mem_cons.mp hz with q | hz
      · exact .inl (.inr (q ▸ e))
      · exact .inr ⟨z,hz,e⟩
theorem V7 {α : Type} {P : List α → Prop} (h0 : P []) (h1 : ∀ l a,P l → P (l ++ [a])) (l : List α) : P l:=by
 have : ∀ l : List α,P l.reverse:=fun l => by
  induction l with
  | nil => exact h0
  | cons a l ih => rw [List.reverse_cons]; exact h1 _ _ ih
 have:=this l.reverse
 rwa [List.reverse_reverse] at this
theorem qQ (rows : List Nat) (r : Nat) : yq (rows ++ [r]) = kC (yq rows) r:=by unfold yq; rw [foldl_append]; rfl
theorem qL (rows : List Nat) : (yq rows).Nodup ∧ ∀ x,x ∈ yq rows ↔ x < 16 ∧ zI rows x = x:=by
 induction rows using V7 with
 | h0 =>
  refine ⟨by decide,fun x => ?_⟩
  show x ∈ [15] ↔ x < 16 ∧ 15 = x
  rw [mem_singleton]; omega
 | h1 rows r ih =>
  obtain ⟨i1,i2⟩:=ih
  rw [qQ]
  obtain ⟨h1,h2⟩:=jY r (yq rows) (yq rows) i1
  refine ⟨h1,fun x => ?_⟩
  show x ∈ foldl _ _ _ ↔ _
  rw [h2]
  constructor
  · rintro (h | ⟨z,hz,rfl⟩)
    · obtain ⟨a,b⟩:=(i2 x).mp h
      exact ⟨a,wF (fun r hr => mem_append_left _ hr) a b⟩
    · obtain ⟨a,b⟩:=(i2 z).mp hz
      have hlt : z &&& r < 16:=lt_of_le_of_lt Nat.and_le_left a
      refine ⟨hlt,vC ?_ (z8 hlt _)⟩
      refine VE.mpr ⟨?_,yI (mem_append_right _ (.head _)) (by rw [Nat.and_assoc,Nat.and_self])⟩
      have e1 : (z &&& r) &&& z = z &&& r:=by rw [Nat.and_comm,← Nat.and_assoc,Nat.and_self]
      have h3:=vF (rows ++ [r]) e1
      rw [wF (fun r' hr => mem_append_left _ hr) a b] at h3
      exact h3
  · rintro ⟨a,b⟩
    rw [w7] at b
    by_cases hr : (r &&& x == x) = true
    · rw [if_pos hr] at b
      exact .inr ⟨zI rows x,(i2 _).mpr ⟨yU _ _,jl a rows⟩,b.symm⟩
    · rw [if_neg hr] at b
      exact .inl ((i2 x).mpr ⟨a,b⟩)
theorem kG : ∀ {l m : List Nat},l.Pairwise (· < ·) → m.Pairwise (· < ·) → (∀ x,x ∈ l ↔ x ∈ m) → l = m
 | [],[],_,_,_ => rfl
 | [],b :: m,_,_,h => by have:=(h b).mpr (.head _); cases this
 | a :: l,[],_,_,h => by have:=(h a).mp (.head _); cases this
 | a :: l,b :: m,hl,hm,h => by
  rw [pairwise_cons] at hl hm
  have hab : a = b:=by
    rcases mem_cons.mp ((h a).mp (.head _)) with e | e
    · exact e
    · rcases mem_cons.mp ((h b).mpr (.head _)) with q | q
      · exact q.symm
      · have:=hm.1 a e; have:=hl.1 b q; omega
  subst hab
  congr 1
  refine kG hl.2 hm.2 fun x => ?_
  constructor
  · intro hx
    rcases mem_cons.mp ((h x).mp (.tail _ hx)) with e | e
    · have:=hl.1 x hx; omega
    · exact e
  · intro hx
    rcases mem_cons.mp ((h x).mpr (.tail _ hx)) with e | e
    · have:=hm.1 x hx; omega
    · exact e
noncomputable def vf (rows : List Nat) (x : Nat) : Bool:=zI rows x == x
noncomputable def yW (rows : List Nat) : List Nat:=(List.range 16).filter (vf rows)
theorem jX {rows : List Nat} {x : Nat} : x ∈ yW rows ↔ x < 16 ∧ zI rows x = x:=by
 unfold yW vf; rw [mem_filter,mem_range]; simp
theorem qR (rows : List Nat) : (yW rows).Pairwise (· < ·):=List.pairwise_lt_range.filter _
theorem JE {rows l : List Nat} (hp : l.Perm (yq rows)) (hs : l.Pairwise (· ≤ ·)) : l = yW rows:=by
 obtain ⟨h1,h2⟩:=qL rows
 have hn : l.Nodup:=hp.nodup_iff.mpr h1
 refine kG ?_ (qR rows) fun x => ?_
 · have hn' : l.Pairwise (· ≠ ·):=hn
   exact (hs.and hn').imp fun ⟨a,b⟩ => Nat.lt_of_le_of_ne a b
 · rw [hp.mem_iff,h2,jX]
noncomputable def pc (a : Nat) : Nat:=a % 2 + a / 2 % 2 + a / 4 % 2 + a / 8 % 2
theorem K8 {a b : Nat} (hb : b < 16) (h : a &&& b = a) (n : a ≠ b) : pc a < pc b:=by
 have H : ∀ a b : Fin 16,a.val &&& b.val = a.val → a ≠ b → pc a.val < pc b.val:=by unfold pc; decide +kernel
 exact H ⟨a,sub_lt h hb⟩ ⟨b,hb⟩ h fun e => n (congrArg Fin.val e)
theorem zBY {a b : Nat} (hb : b < 16) (h : a &&& b = a) : pc a ≤ pc b:=by
 by_cases n : a = b
 · rw [n]; exact le_refl _
 · exact le_of_lt (K8 hb h n)
theorem Z7 (a : Nat) : a % 2 ≤ 1:=Nat.le_of_lt_succ (Nat.mod_lt _ (by decide))
theorem zAd (a : Nat) : pc a ≤ 4:=Nat.add_le_add (Nat.add_le_add (Nat.add_le_add (Z7 _) (Z7 _)) (Z7 _)) (Z7 _)
structure LS where
 tab : List (Nat × Nat × Nat)
 rules : List (Nat × Nat)
 log : List (Nat × Nat × Option Nat × Nat)
noncomputable def zJ (tab : List (Nat × Nat × Nat)) : List Nat:=tab.map fun t => t.2.2
noncomputable def breaks (n : Nat) (rules : List (Nat × Nat)) : Bool:=rules.any fun p => n &&& p.1 == p.1 && n &&& p.2 != p.2
noncomputable def yw (rows : List Nat) (has shall : Nat) : Option Nat:=rows.find? fun r => r &&& has == has && !(r &&& shall == shall)
noncomputable def yf (rows : List Nat) (has : Nat) : Nat:=(rows.filter fun r => decide (r < has)).length
noncomputable def yg (yJ : List Nat) (has : Nat) : Nat → Nat → LS → LS
 | 0,_,st => st
 | f + 1,t,st => if zI (zJ st.tab) has == has then st else
  match yw yJ has (zI (zJ st.tab) has) with
  | none => { st with rules:=st.rules ++ [(has,zI (zJ st.tab) has)],log:=st.log ++ [(has,zI (zJ st.tab) has,none,yf yJ has)] }
  | some r => yg yJ has f (t + 1) { st with tab:=st.tab ++ [(has,t,r)],log:=st.log ++ [(has,zI (zJ st.tab) has,some r,yf yJ has)] }
theorem XW (yJ : List Nat) (has f t : Nat) (st : LS) : yg yJ has (f + 1) t st = if zI (zJ st.tab) has == has then st else
 match yw yJ has (zI (zJ st.tab) has) with
 | none => { st with rules:=st.rules ++ [(has,zI (zJ st.tab) has)],log:=st.log ++ [(has,zI (zJ st.tab) has,none,yf yJ has)] }
 | some r => yg yJ has f (t + 1) { st with tab:=st.tab ++ [(has,t,r)],log:=st.log ++ [(has,zI (zJ st.tab) has,some r,yf yJ has)] }:=rfl
noncomputable def vY (yJ : List Nat) (st : LS) (has : Nat) : LS:=yg yJ has (if breaks has st.rules then 0 else 5) 0 st
noncomputable def yS (yJ : List Nat) : LS:=(List.range 16).foldl (vY yJ) ⟨[],[],[]⟩
noncomputable def jL (e : Nat × Nat × Option Nat × Nat) : Option (Nat × Nat):=e.2.2.1.map fun r => (e.1,r)
structure JI (yJ : List Nat) (st : LS) : Prop where
 sub : ∀ r ∈ zJ st.tab,r ∈ yJ
 nodup : (zJ st.tab).Nodup
 rule : ∀ p ∈ st.rules,p.1 < 16 ∧ p.2 = zI yJ p.1
 len : st.log.length = st.rules.length + st.tab.length
 log : ∀ e ∈ st.log,e.2.2.1 = yw yJ e.1 e.2.1 ∧ e.2.2.2 = yf yJ e.1 ∧ e.1 < 16 ∧ e.2.1 < 16
 tabs : st.tab.map (fun t => (t.1,t.2.2)) = st.log.filterMap jL
 turn : ∀ t ∈ st.tab,t.1 < 16 ∧ t.2.1 < 5
structure zBn (st st' : LS) : Prop where
 rules : ∀ p ∈ st.rules,p ∈ st'.rules
 rows : ∀ r ∈ zJ st.tab,r ∈ zJ st'.tab
theorem Zz {rows : List Nat} {has shall r : Nat} (h : yw rows has shall = some r) : r ∈ rows ∧ r &&& has = has ∧ r &&& shall ≠ shall:=by
 have h1:=List.find?_some h
 have h2:=List.mem_of_find?_eq_some h
 simp only [and_eq_true,beq_iff_eq,not_eq_true',beq_eq_false_iff_ne] at h1
 exact ⟨h2,h1.1,h1.2⟩
theorem Vm {rows : List Nat} {has shall : Nat} (h : yw rows has shall = none) : ∀ r ∈ rows,r &&& has = has → r &&& shall = shall:=by
 intro r hr hh
 have:=List.find?_eq_none.mp h r hr
 simp only [and_eq_true,beq_iff_eq,not_eq_true',beq_eq_false_iff_ne,not_and,ne_eq,Decidable.not_not] at this
 exact this hh
theorem wB (tab : List (Nat × Nat × Nat)) (t : Nat × Nat × Nat) : zJ (tab ++ [t]) = zJ tab ++ [t.2.2]:=by unfold zJ; simp
theorem Wf {yJ : List Nat} {has : Nat} (hh : has < 16) : ∀ (f t : Nat) (st : LS),JI yJ st → t + f ≤ 5 → JI yJ (yg yJ has f t st) ∧ zBn st (yg yJ has f t st) ∧
  (pc (zI (zJ st.tab) has) < pc has + f → breaks has st.rules = false → breaks has (yg yJ has f t st).rules = false → zI (zJ (yg yJ has f t st).tab) has = has)
 | 0,t,st,I,_ => ⟨I,⟨fun _ h => h,fun _ h => h⟩,fun h _ _ => by
    have:=zBY (yU (zJ st.tab) has) (z8 hh (zJ st.tab))
    omega⟩
 | f + 1,t,st,I,ht => by
  rw [XW]
  by_cases hc : (zI (zJ st.tab) has == has) = true
  · rw [if_pos hc]
    exact ⟨I,⟨fun _ h => h,fun _ h => h⟩,fun _ _ _ => beq_iff_eq.mp hc⟩
  · rw [if_neg hc]
    have hne : zI (zJ st.tab) has ≠ has:=fun e => hc (beq_iff_eq.mpr e)
    have hlt:=yU (zJ st.tab) has
    have hsub:=z8 hh (zJ st.tab)
    cases htell : yw yJ has (zI (zJ st.tab) has) with
    | none =>
     have hsh : zI (zJ st.tab) has = zI yJ has:=by
       refine vC ((xB has _ hlt yJ).mpr fun r hr hx => ?_) (x7 I.sub has)
       rw [Nat.and_comm]
       exact Vm htell r hr (by rw [Nat.and_comm]; exact hx)
     refine ⟨⟨I.sub,I.nodup, ?_, ?_, ?_, ?_,I.turn⟩,⟨fun p h => mem_append_left _ h,fun _ h => h⟩,fun _ _ hb => ?_⟩
     · intro p hp
       rcases mem_append.mp hp with hp | hp
       · exact I.rule p hp
       · rw [mem_singleton.mp hp]; exact ⟨hh,hsh⟩
     · have:=I.len
       simp only [length_append,List.length_singleton]; omega
     · intro e he
       rcases mem_append.mp he with he | he
       · exact I.log e he
       · rw [mem_singleton.mp he]; exact ⟨htell.symm,rfl,hh,hlt⟩
     · rw [List.filterMap_append,← I.tabs]; simp [jL]
     · exfalso
       have:=List.any_eq_false.mp hb (has,zI (zJ st.tab) has) (mem_append_right _ (.head _))
       simp [hsub,Ne.symm hne] at this
    | some r =>
     obtain ⟨h1,h2,h3⟩:=Zz htell
     have hnew : r ∉ zJ st.tab:=fun hr => h3 (by rw [Nat.and_comm]; exact yI hr (by rw [Nat.and_comm]; exact h2))
     have I' : JI yJ { st with tab:=st.tab ++ [(has,t,r)],log:=st.log ++ [(has,zI (zJ st.tab) has,some r,yf yJ has)] }:=by
       refine ⟨?_, ?_,I.rule, ?_, ?_, ?_, ?_⟩
       · intro q hq
         rw [wB] at hq
         rcases mem_append.mp hq with hq | hq
         · exact I.sub q hq
         · rw [mem_singleton.mp hq]; exact h1
       · show (zJ (st.tab ++ [(has,t,r)])).Nodup
         rw [wB,nodup_append]
         exact ⟨I.nodup,by simp,fun a ha b hb e => hnew (by rw [mem_singleton.mp hb] at e; rw [← show a = r from e]; exact ha)⟩
       · have:=I.len
         simp only [length_append,List.length_singleton]; omega
       · intro e he
         rcases mem_append.mp he with he | he
         · exact I.log e he
         · rw [mem_singleton.mp he]; exact ⟨htell.symm,rfl,hh,hlt⟩
       · simp only [map_append,List.filterMap_append,I.tabs]; rfl
       · intro q hq
         rcases mem_append.mp hq with hq | hq
         · exact I.turn q hq
         · rw [mem_singleton.mp hq]; exact ⟨hh,by show t < 5; omega⟩
     obtain ⟨J1,J2,J3⟩:=Wf hh f (t + 1) _ I' (by omega)
     refine ⟨J1,⟨J2.rules,fun q hq => J2.rows q ?_⟩,fun hm hb hb' => J3 ?_ hb hb'⟩
     · show q ∈ zJ (st.tab ++ [(has,t,r)])
       rw [wB]; exact mem_append_left _ hq
     · show pc (zI (zJ (st.tab ++ [(has,t,r)])) has) < pc has + f
       have e : zI (zJ (st.tab ++ [(has,t,r)])) has = zI (zJ st.tab) has &&& r:=by
         rw [wB,w7,if_pos (beq_iff_eq.mpr h2)]
       rw [e]
       have:=K8 (a:=zI (zJ st.tab) has &&& r) (b:=zI (zJ st.tab) has) hlt (by rw [Nat.and_assoc,Nat.and_comm r,← Nat.and_assoc,Nat.and_self]) fun z => h3 (by rw [Nat.and_comm]; exact z)
       omega
theorem jg {n : Nat} {r r' : List (Nat × Nat)} (h : ∀ p ∈ r,p ∈ r') (b : breaks n r' = false) : breaks n r = false:=by
 unfold breaks at *
 rw [List.any_eq_false] at *
 exact fun p hp => b p (h p hp)
theorem Xc {yJ : List Nat} : ∀ n,n ≤ 16 → JI yJ ((List.range n).foldl (vY yJ) ⟨[],[],[]⟩) ∧
  ∀ x,x < n → breaks x ((List.range n).foldl (vY yJ) ⟨[],[],[]⟩).rules = false → zI (zJ ((List.range n).foldl (vY yJ) ⟨[],[],[]⟩).tab) x = x
 | 0,_ => ⟨⟨fun _ h => (nomatch h),nodup_nil,fun _ h => (nomatch h),rfl,fun _ h => (nomatch h),rfl,fun _ h => (nomatch h)⟩,fun x h => by omega⟩
 | n + 1,h => by
  obtain ⟨I,K⟩:=Xc (yJ:=yJ) n (by omega)
  rw [range_succ,foldl_append,foldl_cons,List.foldl_nil]
  generalize (List.range n).foldl (vY yJ) ⟨[],[],[]⟩ = st at I K ⊢
  have hn : n < 16:=by omega
  have T:=Wf (yJ:=yJ) hn (if breaks n st.rules then 0 else 5) 0 st I (by split <;> omega)
  refine ⟨T.1,fun x hx hb => ?_⟩
  by_cases e : x = n
  · subst e
    have hb0:=jg T.2.1.rules hb
    refine T.2.2 ?_ hb0 hb
    rw [hb0]
    have:=zAd (zI (zJ st.tab) x)
    simp only [false_eq_true,if_false]; omega
  · exact wF T.2.1.rows (by omega) (K x (by omega) (jg T.2.1.rules hb))
theorem Qt (yJ : List Nat) : JI yJ (yS yJ) ∧ ∀ x,x < 16 → (breaks x (yS yJ).rules = false ↔ zI yJ x = x) ∧ (zI (zJ (yS yJ).tab) x = x ↔ zI yJ x = x):=by
 obtain ⟨I,K⟩:=Xc (yJ:=yJ) 16 (le_refl _)
 refine ⟨I,fun x hx => ?_⟩
 have h1 : breaks x (yS yJ).rules = false → zI (zJ (yS yJ).tab) x = x:=K x hx
 have h2 : zI (zJ (yS yJ).tab) x = x → zI yJ x = x:=wF I.sub hx
 have h3 : zI yJ x = x → breaks x (yS yJ).rules = false:=fun c => by
  unfold breaks
  rw [List.any_eq_false]
  intro p hp
  obtain ⟨g1,g2⟩:=I.rule p hp
  simp only [and_eq_true,beq_iff_eq,bne_iff_ne,ne_eq,not_and,Decidable.not_not]
  intro q
  have:=vF yJ (x:=p.1) (y:=x) (by rw [Nat.and_comm]; exact q)
  rw [c,← g2] at this
  rw [Nat.and_comm]; exact this
 exact ⟨⟨fun b => h2 (h1 b),h3⟩,⟨h2,fun c => h1 (h3 c)⟩⟩
noncomputable def zQ (p : Nat × Nat) : D:=.tup [zC p.1,zC p.2]
noncomputable def jz (n : Nat) (p : Nat × Nat) : Bool:=n &&& p.1 == p.1 && n &&& p.2 != p.2
theorem ZH (n : Nat) (rules : List (Nat × Nat)) : breaks n rules = !(((rules.filter (jz n)).map fun p : Nat × Nat => (p.1 : Int)).isEmpty):=by
 unfold breaks
 induction rules with
 | nil => rfl
 | cons p rules ih =>
  rw [List.any_cons,List.filter_cons,ih]
  cases h : jz n p
  · rw [show (n &&& p.1 == p.1 && n &&& p.2 != p.2) = false from h]; simp
  · rw [show (n &&& p.1 == p.1 && n &&& p.2 != p.2) = true from h]; simp
theorem Jw (G : Gl B mg mb) (n : Nat) (rules : List (Nat × Nat)) (hl : rules.length ≤ 1000) :
  vN prog w 0 B brS [ofString "number",ofString "rules"] [.int n,.list (rules.map zQ)] (.bool (breaks n rules)):=by
 intro A s M₀ env Own M s₁ R X S
 k_extra "flat"
 show wpAny _ _ (execs (_ :: []) _) _ _ _
 refine' YE S ?qa rfl
 refine' Ev.cast (Ev.cmp (da:=.list (((rules.filter (jz n)).map fun p : Nat × Nat => (p.1 : Int)).map .int)) (db:=.list []) R (Ev.rd (Ev.cast (Ev.compF S.e R ?a1 (dsrc:=.list (rules.map zQ)) ?a2 rules zQ (zj.list _) (fun p => [(ofString "low",.dat (zC p.1)),(ofString "high",.dat (zC p.2))]) (jz n) (fun p => zC p.1) ?a3 (yo fun _ => by kernel_rfl) (by rw [sizeLine_eq]; omega) ?a5 ?a6) ?a7)) ?a8 (zN.ne (xi _) rfl) rfl) ?a9
 case a1 => k_extra "kd"
 case a2 => k_extra "z"
 case a3 => exact fun p _ => wu.tuple [(ofString "low",_),(ofString "high",_)] rfl (by decide) (by k_extra "kd") rfl
 case a5 => k_extra "fs"
 case a7 => rw [map_map]; rfl
 case a8 => k_extra "z"
 case a9 => rw [Kj,ZH]
 case a6 =>
  intro p hp env' h' M' kx hE
  refine ⟨xl.one (Tv.and_cons (Tv.cmp R (Ev.rd (Ev.bin hE ?t1 ?t2 (yC.andN _ _))) ?t3 (zN.eqN _ _) rfl) fun _ => Tv.cast (Tv.and_cons (Tv.cmp R (Ev.rd (Ev.bin hE ?t4 ?t5 (yC.andN _ _))) ?t6 (zN.neN _ _) rfl) fun _ => Tv.and_nil) (Bool.and_true _)),fun _ => ?t7⟩
  case t1 | t2 | t3 | t4 | t5 | t6 | t7 => k_extra "z"
theorem Wi (G : Gl B mg mb) {f : Addr} {fd : FuncData} (H : zl B mg "_law_breaks" brS f fd) (hb : ∀ a b s,BindsTo s fd ⟨[a,b],[]⟩ [(ofString "number",a),(ofString "rules",b)]) (n : Nat) (rules : List (Nat × Nat)) (hl : rules.length ≤ 1000) :
  zG prog w 1 B (.ref f) [.int n,.list (rules.map zQ)] (.bool (breaks n rules)):=by
 refine zG.of_defB G H [ofString "number",ofString "rules"] (fun vs hv s => ?_) rfl (by decide) (by k_extra "kd") rfl (Jw G n rules hl)
 obtain ⟨a,b,rfl⟩:=zAm hv
 exact hb a b s
theorem vK (l : List Nat) : xz 8 (.list (l.map zC)) = true:=by rw [qY]; exact xi _
theorem Yg (z : Nat) : ∀ l : List Nat,((l.map zC).any fun y => QK y (zC z)) = l.contains z
 | [] => rfl
 | y :: l => by
  rw [map_cons,List.any_cons,List.contains_cons,Yg z l]
  congr 1
  simp only [QK,xR,PyData.eqv]
  rw [Bool.eq_iff_iff]
  simp only [beq_iff_eq]
  omega
theorem zN.notInN (z : Nat) (l : List Nat) : zN prog w .NotIn (zC z) (.list (l.map zC)) (!l.contains z):=by
 rw [← Yg]; exact zN.notInL (vK l) rfl
theorem Ye (acc : List Nat) (z : Nat) : (yE acc z).length ≤ acc.length + 1:=by
 unfold yE; split
 · omega
 · simp
theorem kl (row : Nat) : ∀ (l acc : List Nat),(l.foldl (fun acc one => yE acc (one &&& row)) acc).length ≤ acc.length + l.length
 | [],acc => by simp
 | o :: l,acc => by
  rw [foldl_cons,length_cons]
  have:=kl row l (yE acc (o &&& row))
  have:=Ye acc (o &&& row)
  omega
theorem zBH {l : List Nat} (hn : l.Nodup) (hl : ∀ x ∈ l,x < 16) : l.length ≤ 16:=by
 have h : l.length ≤ (List.range 16).length:=by
  have hp : ((List.range 16).filter fun x => l.contains x).Perm l:=(List.perm_ext_iff_of_nodup (List.nodup_range.filter _) hn).mpr fun x => by
   rw [mem_filter,mem_range]
   simp only [List.contains_eq_mem,decide_eq_true_eq]
   exact ⟨fun h => h.2,fun h => ⟨hl x h,h⟩⟩
  rw [← hp.length_eq]
  exact length_filter_le _ _
 simpa using h
theorem jj (rows : List Nat) : (yq rows).length ≤ 16:=zBH (qL rows).1 fun x hx => ((qL rows).2 x |>.mp hx).1
theorem Km (G : Gl B mg mb) (hli : mg "list" = none ∧ mb "list" = some (.type "list")) (hso : mg "sorted" = none ∧ mb "sorted" = some (.builtin "sorted")) (rows : List Nat) (hl : rows.length ≤ 100) :
  vN prog w 0 B shS [ofString "rows"] [.list (rows.map zC)] (.list ((yW rows).map zC)):=by
 intro A s M₀ env Own M s₁ R X S
 k_extra "flat"
 show wpAny _ _ (execs (_ :: _ :: _ :: []) _) _ _ _
 refine' wC (d:=.list [zC 15]) S ?a1 ?a2 rfl ?a3
 case a1 => k_extra "z"
 case a2 => k_extra "kd"
 case a3 =>
  clear S
  intro La hLa s' S
  refine' xP (α:=Nat) (σ:=List Nat) S R ?qv (dsrc:=.list (rows.map zC)) rows zC (zj.list _) (fun y => [(ofString "row",.dat (zC y))]) ?asg ?fs
   (fun _ => [(ofString "shut",.adr La),(ofString "rows",.dat (.list (rows.map zC)))]) (fun c => [(La,.list (c.map zC))]) (fun i c => c = yq (rows.take i)) (fun _ _ _ => False) [15] rfl ?rho rfl ?off ?turn ?done (fun _ _ _ h _ => h.elim)
  case qv => k_extra "z"
  case asg => exact fun y _ => wu.name (by k_extra "kd")
  case fs => k_extra "fs"
  case rho => k_extra "sub"
  case off => intro c y; k_extra "kd"
  case turn =>
   clear S
   intro i y c M' s₂ hy hc hMM S
   have hn : yq (rows.take (i + 1)) = kC c y:=by rw [take_add_one,hy,hc]; exact qQ _ _
   have hcl : c.length ≤ 16:=by rw [hc]; exact jj _
   clear hc
   show wpAny _ _ (execs (_ :: []) _) _ _ _
   refine' xP (α:=Nat) (σ:=List Nat) S R ?qv2 (dsrc:=.list (c.map zC)) c zC (zj.list _) (fun o => [(ofString "one",.dat (zC o))]) ?asg2 ?fs2
    (fun _ => [(ofString "row",.dat (zC y)),(ofString "shut",.adr La),(ofString "rows",.dat (.list (rows.map zC)))]) (fun c => [(La,.list (c.map zC))]) (fun j a => a = (c.take j).foldl (fun acc one => yE acc (one &&& y)) c) (fun _ _ _ => False) c rfl ?rho2 rfl ?off2 ?turn2 ?done2 (fun _ _ _ h _ => h.elim)
   case qv2 =>
    refine' Ev.call S.e R (Ev.glob G S.e ?f1 (.inr hli) (by decide)) ?f2 (yy.cons ?f3 .nil fun _ => rfl) (zG.listL _ ?f4)
    case f1 => k_extra "kd"
    case f2 | f3 => k_extra "z"
    case f4 => rw [length_map,sizeLine_eq]; omega
   case asg2 => exact fun y _ => wu.name (by k_extra "kd")
   case fs2 => k_extra "fs"
   case rho2 => k_extra "sub"
   case off2 => intro c y; k_extra "kd"
   case turn2 =>
    clear S
    intro j o a M'' s₃ ho ha hMM2 S
    have hna : (c.take (j + 1)).foldl (fun acc one => yE acc (one &&& y)) c = yE a (o &&& y):=by rw [take_add_one,ho,ha,foldl_append]; rfl
    have hal : a.length ≤ 32:=by
     rw [ha]
     have:=kl y (c.take j) c
     rw [length_take] at this
     omega
    clear ha
    show wpAny _ _ (execs (_ :: []) _) _ _ _
    refine' xn (b:=!a.contains (o &&& y)) S ?it ?ik
    case it =>
     refine' Tv.cmp R (Ev.rd (Ev.bin S.e ?t1 ?t2 (yC.andN _ _))) ?t3 (zN.notInN _ _) rfl
     case t1 | t2 | t3 => k_extra "z"
    case ik =>
     k_extra "next"
     unfold yE at hna
     cases hb : a.contains (o &&& y)
     · rw [hb] at hna
       simp only [false_eq_true,if_false] at hna
       simp only [Bool.not_false,if_true]
       show wpAny _ _ (execs (_ :: []) _) _ _ _
       refine' wm (pre:=[]) (post:=[]) (ds:=[zC (o &&& y)]) S R ?m1 ?m2 rfl (.inr rfl) rfl ?m3 ?m4 ?m5 ?m6 (by rfl) (by rfl) (wI.append _ _ ?m7) ?m8
       case m1 => k_extra "mem"
       case m2 => k_extra "kd"
       case m3 => k_extra "pa"
       case m4 => k_extra "slot"
       case m5 => k_extra "mty"
       case m6 =>
        refine .cons (Ev.bin S.e ?t1 ?t2 (yC.andN _ _)) .nil (fun _ => rfl)
        case t1 | t2 => k_extra "z"
       case m7 => rw [length_map,sizeLine_eq]; omega
       case m8 =>
        k_extra "next"
        rw [nil_append,show a.map zC ++ [zC (o &&& y)] = (a ++ [o &&& y]).map zC from (map_append (l₂:=[o &&& y])).symm] at S
        exact zD (zD ⟨a ++ [o &&& y],_,_,S.sub (by k_extra "sub"),hna.symm⟩)
     · rw [hb] at hna
       simp only [if_true] at hna
       simp only [Bool.not_true,false_eq_true,if_false]
       exact zD (zD ⟨a,_,_,S.sub (by k_extra "sub"),hna.symm⟩)
   case done2 =>
    clear S
    intro a s' ha S
    rw [take_length] at ha
    exact zD (zD ⟨a,_,_,S.sub (by k_extra "sub"),by rw [hn,ha]; rfl⟩)
  case done =>
   clear S
   intro c s' hc S
   rw [take_length] at hc
   have hcl : c.length ≤ 16:=by rw [hc]; exact jj _
   refine zD ?_
   show wpAny _ _ (execs (_ :: []) _) _ _ _
   refine' YE S (Ev.call S.e R (Ev.glob G S.e ?e1 (.inr hso) (by decide)) ?e2 (yy.cons ?e3 .nil fun _ => rfl) (zG.sorted c ?e4)) ?e5
   case e1 => k_extra "kd"
   case e2 | e3 => k_extra "z"
   case e4 => omega
   case e5 => rw [JE (rows:=rows) ((wQ c).trans (by rw [hc])) (qI c)]
theorem XA (H : Jk B mg mb) {P : Addr} {qs : List (Pos × Str)} {ps : Array Value} {os : List (Addr × Obj)} {xs : List D} {xd : D} {pre post : List (Addr × D)} (T : Tb B mg env P qs) (S : St prog w B s₀ Own₀ M₀ names env Own M ρ (pre ++ (P,.obs P (tabObj ps) os) :: post) s)
  (hOP : Own P) (hT : z6 qs ps os) (R : Rm A (k + 2)) {yv px : Str} {fp yp kp pos pos2 lpos : Pos} {e1 e2 : Expr} {params : Arguments} {body : Expr} {scope : Scope} {step : D → D} (lt : D → Bool) (hgi : names.lookup (ofString "bisect_left") = some .globalImplicit)
  (ha : Ev prog w A s.heap e1 env (PS prog w M (.list xs))) (he : Ev prog w A s.heap e2 env (PS prog w M xd)) (hst1 : ∀ rest,starEach (e1 :: rest) env = (false,eval e1 env) :: starEach rest env) (hst : ∀ rest,starEach (e2 :: rest) env = (false,eval e2 env) :: starEach rest env)
  (hq : (lpos,env.qual ++ "<lambda>") ∈ qs) (hdef : defaultsOf params env = ([],[])) (hc : yQ names scope = true) (hf : vg scope = true) (hx : zT scope.names px = true) (hyv : zT names yv = true)
  (hb : ∀ fd c' cl,ZN fd params (.expr body) scope (env.qual ++ "<lambda>") c' cl → ∀ v s,BindsTo s fd ⟨[v],[]⟩ [(px,v)])
  (ev : ∀ d ∈ xs,∀ A env h M B',zS B B' → Rm A k → En prog w B' scope.names env h M ((px,.dat d) :: xa scope.names ρ) [] → Ev prog w A h body env (PS prog w M (step d)))
  (hsz : xs.length ≤ 100000) (hcmp : ∀ d,d ∈ xs → zN prog w .Lt (step d) xd (lt (step d)))
  (hs : swapsWith (.Call (.Name (ofString "bisect_left") fp) [e1,e2] [⟨some (ofString "key"),.Lambda params body scope lpos,kp⟩] pos) (some (.Name yv yp)) pos2.line env = pure false)
  (hQ : ∀ ps' os' s',z6 qs ps' os' → St prog w B s₀ Own₀ M₀ names env Own M ((yv,.dat (.int ((yK (fun (c : Unit) d => (c,lt (step d))) xs (xs.length - 0) 0 xs.length ()).2 : Nat))) :: YX yv ρ) (pre ++ (P,.obs P (tabObj ps') os') :: post) s' → wpAny (model prog w) A (execs rest env) Q E s') :
  wpAny (model prog w) A (execs (.Assign [.Name yv yp] (.Call (.Name (ofString "bisect_left") fp) [e1,e2] [⟨some (ofString "key"),.Lambda params body scope lpos,kp⟩] pos) pos2 :: rest) env) Q E s:=by
 obtain ⟨f,fd,t,HI,BI⟩:=H.left
 refine vV (s₀:=s₀) (Own₀:=Own₀) (M₀:=M₀) (B:=B) (names:=names) hs hyv ?_
 refine jO (f:=.ref f) (rs:=[.dat (.list xs),.dat xd]) S.e (Ev.glob H.G S.e hgi (.inl HI.g) (by decide)) HI.keepy (.cons (r:=.dat (.list xs)) ha (.cons (r:=.dat xd) he .nil hst) hst1) (hst1 _) fun vs s₁ k₁ rs => ?_
 refine zP.use2 rs fun v1 v2 r1 r2 => ?_
 have S₁:=S.step k₁
 refine Qi T S₁ hOP hT hq hdef hc fun kf fo fd2 c' oc cl ps' os' s₂ hfd F hco hT' K S₂ rf ef => ?_
 obtain ⟨_,hfo,hfm,hcs⟩:=rf.obs_inv
 obtain ⟨hc1,hc2⟩:=hcs (c',oc) (.head _)
 have up : ∀ {v d},Rp prog w s₁.heap M v d → Rp prog w s₂.heap M v d:=fun r => by
  obtain ⟨h2,tk2,rfl,kk⟩:=ef
  exact Rp.to (fun a o m e => ⟨kk a o (fun z => m (by rw [mem_singleton.mp z]; exact S.own P hOP)) e,m⟩) r
 have XB : zS B (hideAll s₂.heap []):=xg (h:=s₂.heap) [] S₂.e.base fun a z => (nomatch z)
 have KO : wP prog w (k + 1) (hideAll s₂.heap []) M kf xs (fun _ : Unit => True) (fun _ => []) (fun c d => (c,step d)):=by
  refine VC (B₀:=B) (ρ:=ρ) F hf H.G.lim XB hfo hfd ?_ (K.hide fun a z => (nomatch z)) (hb fd2 c' cl F) hx (fun d hd A env h M R' S' => ev d hd A env h M _ XB R' S')
  obtain ⟨us,t',q1,q2⟩:=hco
  exact ⟨c',oc,us,t',rfl,hc1,q1,q2⟩
 refine ⟨S₂.e.base, ?_⟩
 refine ZL (M₁:=M) (τ:=Unit) (μk:=fun _ => []) (P:=fun _ => True) (J:=fun _ _ => True) (step:=fun c d => (c,step d)) (args:=⟨[v1,v2],[(("key" : Str),.ref kf)]⟩) (ra:=.dat (.list xs)) (μa:=[]) (hd:=.none) H.G H.len HI lt 0 xs.length () (R.le (by omega)) S₂.e.base S₂.e.old (fun _ _ _ m => (nomatch m)) hfd hfo hfm KO (fun _ _ _ => trivial) trivial (fun _ _ _ _ _ => trivial) (fun _ _ _ _ _ => trivial) (fun _ _ => rfl)
  (.inl ⟨rfl,rfl⟩) (up r1) (fun _ _ m => (nomatch m)) nodup_nil (up r2) .none (Zd (BI.ext S₂.e.base) v1 v2 (.ref kf)) hsz (.inl ⟨rfl,rfl⟩) (le_refl _) (fun _ d _ hd => hcmp d hd) fun v s' ef' _ _ rv => ?_
 obtain ⟨h3,tk3,rfl,kk3⟩:=ef'
 exact ⟨Own,M,ρ,_,.dat (.int ((yK (fun (c : Unit) d => (c,lt (step d))) xs (xs.length - 0) 0 xs.length ()).2 : Nat)),S₂.step ⟨h3,tk3,rfl,fun b o e => kk3 b o (by simp) e⟩,rv,fun s' S' => hQ ps' os' s' hT' S'⟩
theorem YO (go : Unit → D → Unit × Bool) (xs : List D) (m : Nat) (h1 : ∀ i,i < m → (go () (xs.getD i .none)).2 = true) (h2 : ∀ i,m ≤ i → i < xs.length → (go () (xs.getD i .none)).2 = false) :
  ∀ (n lo hi : Nat) (c : Unit),lo ≤ m → m ≤ hi → hi ≤ xs.length → hi - lo ≤ n → (yK go xs n lo hi c).2 = m
 | 0,lo,hi,c,a,b,_,d => by simp only [w9,wx]; exact le_antisymm a (le_trans b (Nat.sub_eq_zero_iff_le.mp (Nat.le_zero.mp d)))
 | n + 1,lo,hi,(),a,b,e,d => by
  simp only [w9,wx]
  split
  · rename_i hlt
    by_cases hm : (lo + hi) / 2 < m
    · rw [h1 _ hm,if_pos rfl]
      exact YO go xs m h1 h2 n _ _ _ hm b e (kY hlt d)
    · rw [h2 _ (Nat.not_lt.mp hm) (lt_of_lt_of_le (Z6 hlt) e)]
      rw [if_neg (by decide)]
      exact YO go xs m h1 h2 n _ _ _ a (Nat.not_lt.mp hm) (le_trans (le_of_lt (Z6 hlt)) e) (j6 hlt d)
  · rename_i hn
    exact le_antisymm a (le_trans b (Nat.not_lt.mp hn))
theorem j9 (go : Unit → D → Unit × Bool) (as bs : List D) (h1 : ∀ d ∈ as,(go () d).2 = true) (h2 : ∀ d ∈ bs,(go () d).2 = false) : (yK go (as ++ bs) ((as ++ bs).length - 0) 0 (as ++ bs).length ()).2 = as.length:=by
 refine YO go _ as.length (fun i hi => ?_) (fun i hi hl => ?_) _ _ _ _ (zero_le _) (by simp) (le_refl _) (le_refl _)
 · rw [getD_eq_getElem?_getD,List.getElem?_append_left hi,getElem?_eq_getElem hi]
   exact h1 _ (getElem_mem hi)
 · rw [length_append] at hl
   rw [getD_eq_getElem?_getD,List.getElem?_append_right hi,getElem?_eq_getElem (by omega)]
   exact h2 _ (getElem_mem _)
noncomputable def xb (want got : Str) : Bool:=decide (want.length ≤ 1000) && decide (got.length ≤ 1000) && (decide (2 ≤ (zz want zX).length) || !inS zX want) && decide ((zz want zX).length ≤ 1000) && (zz want zX).all fun x => decide (x.length ≤ 1000)
structure Y0 (B : Heap) (mg mb : Str → Option Value) : Prop where
 G : Gl B mg mb
 len : mg "len" = none ∧ mb "len" = some (.builtin "len")
 mark : ∃ t,mg "ELLIPSIS_MARKER" = some (.str zX t)
 fn : ∃ f fd,zl B mg "_ellipsis_match" YL f fd ∧ ∀ a b s,BindsTo s fd ⟨[a,b],[]⟩ [(ofString "want",a),(ofString "got",b)]
theorem Y0.ext {B' : Heap} (H : Y0 B mg mb) (X : zS B B') : Y0 B' mg mb:=by
 refine ⟨H.G.ext X,H.len,H.mark, ?_⟩
 obtain ⟨f,fd,h1,h2⟩:=H.fn
 exact ⟨f,fd,h1.ext X,h2⟩
theorem Y0.call (H : Y0 B mg mb) : ∃ f fd,zl B mg "_ellipsis_match" YL f fd ∧ ∀ want got,xb want got = true → zG prog w 1 B (.ref f) [.str want,.str got] (.bool (v6 want got)):=by
 obtain ⟨f,fd,h1,h2⟩:=H.fn
 refine ⟨f,fd,h1,fun want got hf => ?_⟩
 simp only [xb,and_eq_true,Bool.or_eq_true,decide_eq_true_eq,not_eq_true'] at hf
 obtain ⟨⟨⟨⟨g1,g2⟩,g3⟩,g4⟩,g5⟩:=hf
 refine zG.of_def H.G h1 [ofString "want",ofString "got"] (fun vs hl s => ?_) rfl (by decide) (by k_extra "kd") rfl (QX H.G H.len H.mark want got g1 g2 g3 g4 fun x hx => by simpa using all_eq_true.mp g5 x hx)
 obtain ⟨a,b,rfl⟩:=zAm hl
 exact h2 a b s
noncomputable abbrev we:=(zR Jo).names
noncomputable abbrev teS : Stmt:=(zB Jo).getD 0 W8
noncomputable abbrev Wt:=(zR teS).names
noncomputable abbrev zn : Str:=ofString " "
noncomputable abbrev xX : Str:=ofString ","
noncomputable def KS (nm : Nat → Str) (r : Nat) : Str:=zn ++ nm r ++ xX
noncomputable def qZ (r n : Nat) : Bool:=r &&& n == n
structure Zv (nm wt : Nat → Str) : Prop where
 ell : ∀ n r,n < 16 → r < 16 → v6 (wt n) (KS nm r) = qZ r n
 fit : ∀ n r,n < 16 → r < 16 → xb (wt n) (KS nm r) = true
 len : ∀ r,r < 16 → (nm r).length ≤ 900
noncomputable abbrev yB (f : Nat → Str) : D:=.list ((List.range 16).map fun n => .str (f n))
theorem xZ (f : Nat → Str) {n : Nat} (h : n < 16) : ((List.range 16).map fun n => D.str (f n))[((n : Nat) : Int).toNat]? = some (.str (f n)):=by
 rw [toNat_natCast,getElem?_map,getElem?_range h]; rfl
noncomputable def X4 (has shall r : Nat) : Bool:=qZ r has && !qZ r shall
theorem j5 (rows : List Nat) (has shall : Nat) : yw rows has shall = rows.find? (X4 has shall):=rfl
theorem QB (has shall : Nat) (n : Nat) : ∀ rows : List Nat,(∀ r ∈ rows.take n,r < has) → yw (rows.drop n) has shall = yw rows has shall:=by
 intro rows h
 conv => rhs; rw [← List.take_append_drop n rows]
 rw [j5,j5,List.find?_append]
 have : (rows.take n).find? (X4 has shall) = none:=List.find?_eq_none.mpr fun r hr => by
  have:=h r hr
  unfold X4 qZ
  have hle : r &&& has ≤ r:=Nat.and_le_left
  have : (r &&& has == has) = false:=by rw [beq_eq_false_iff_ne]; omega
  rw [this]; simp
 rw [this]; rfl
theorem j7 (has : Nat) : ∀ rows : List Nat,rows.Pairwise (· ≤ ·) → (∀ r ∈ rows.take (yf rows has),r < has) ∧ ∀ r ∈ rows.drop (yf rows has),has ≤ r:=by
 intro rows
 induction rows with
 | nil => intro _; exact ⟨fun r h => by simp at h,fun r h => by simp at h⟩
 | cons a rows ih =>
  intro hp
  rw [pairwise_cons] at hp
  obtain ⟨h1,h2⟩:=ih hp.2
  by_cases ha : a < has
  · have e : yf (a :: rows) has = yf rows has + 1:=by unfold yf; rw [List.filter_cons_of_pos (by simpa using ha),length_cons]
    rw [e,List.take_succ_cons,List.drop_succ_cons]
    refine ⟨fun r hr => ?_,h2⟩
    rcases mem_cons.mp hr with q | hr
    · rw [q]; exact ha
    · exact h1 r hr
  · have e : yf (a :: rows) has = 0:=by
      unfold yf
      rw [List.filter_cons_of_neg (by simpa using ha),List.length_eq_zero_iff,List.filter_eq_nil_iff]
      intro r hr
      have:=hp.1 r hr
      simp only [decide_eq_true_eq]; omega
    rw [e]
    refine ⟨fun r h => by simp at h,fun r hr => ?_⟩
    rw [drop_zero] at hr
    rcases mem_cons.mp hr with q | hr
    · omega
    · have:=hp.1 r hr; omega
theorem VI (rows : List Nat) (has : Nat) : yf rows has ≤ rows.length:=length_filter_le _ _
noncomputable def ZZ (nm : Nat → Str) (rows : List Nat) (has shall : Nat) : D:=.tup [match yw rows has shall with | none => .none | some r => .str (nm r),zC (yf rows has)]
noncomputable abbrev Yt (d : D) : D:=match d with | .tup (x :: _) => x | _ => .none
theorem JA (page : List (Nat × Nat)) (hs : (page.map Prod.fst).Pairwise (· ≤ ·)) (has : Nat) (lt : D → Bool) (hlt : ∀ n : Nat,lt (zC n) = decide (n < has)) :
   (yK (fun (c : Unit) d => (c,lt (Yt d))) (page.map zQ) ((page.map zQ).length - 0) 0 (page.map zQ).length ()).2 = yf (page.map Prod.fst) has:=by
 obtain ⟨h1,h2⟩:=j7 has _ hs
 have hl:=VI (page.map Prod.fst) has
 have e : page.map zQ = (page.take (yf (page.map Prod.fst) has)).map zQ ++ (page.drop (yf (page.map Prod.fst) has)).map zQ:=by rw [← map_append,List.take_append_drop]
 have key:=j9 (fun (c : Unit) d => (c,lt (Yt d))) ((page.take (yf (page.map Prod.fst) has)).map zQ) ((page.drop (yf (page.map Prod.fst) has)).map zQ) (fun d hd => ?_) (fun d hd => ?_)
 · rw [← e] at key
   rw [key,length_map,length_take]
   rw [length_map] at hl
   exact min_eq_left hl
 · obtain ⟨q,hq,rfl⟩:=mem_map.mp hd
   show lt (zC q.1) = true
   rw [hlt,decide_eq_true_eq]
   refine h1 _ ?_
   rw [← List.map_take]; exact mem_map.mpr ⟨q,hq,rfl⟩
 · obtain ⟨q,hq,rfl⟩:=mem_map.mp hd
   show lt (zC q.1) = false
   rw [hlt,decide_eq_false_iff_not]
   have:=h2 q.1 (by rw [← map_drop]; exact mem_map.mpr ⟨q,hq,rfl⟩)
   omega
noncomputable abbrev Xx (q : Str) : List (Pos × Str):=[(⟨215,42,215,62⟩,q)]
theorem WU (q : Str) : xG (Xx q) = true:=by
 simp [xG,Xx]
noncomputable def ltD (has : Nat) (d : D) : Bool:=match d with | .int n => decide (n < (has : Int)) | _ => false
theorem VS (HB : Jk B mg mb) (HE : Y0 B mg mb) {P' : Addr} {nm wt : Nat → Str} (W : Zv nm wt) {page : List (Nat × Nat)} (hpl : page.length ≤ 100) (hp16 : ∀ q ∈ page,q.1 < 16) (hs : (page.map Prod.fst).Pairwise (· ≤ ·)) {has shall : Nat} (hh : has < 16) (hsh : shall < 16)
  (R : Rm A 2) (T : Tb B mg env P' (Xx (env.qual ++ "<lambda>"))) (hP : Own P') {ps : Array Value} {os : List (Addr × Obj)} (hT : z6 (Xx (env.qual ++ "<lambda>")) ps os)
  (S : St prog w B s₀ Own₀ M₀ Wt env Own M [(ofString "has",.dat (zC has)),(ofString "shall",.dat (zC shall)),(ofString "page",.dat (.list (page.map zQ))),(ofString "names",.dat (yB nm)),(ofString "wants",.dat (yB wt))] [(P',.obs P' (tabObj ps) os)] s) :
  wpAny (model prog w) A (execs (zB teS) env) (fun fl s' => ∃ v ρ' Own' M',∃ c : Array Value × List (Addr × Obj),fl = .ret v ∧ St prog w B s₀ Own₀ M₀ Wt env Own' M' ρ' [(P',.obs P' (tabObj c.1) c.2)] s' ∧ Rp prog w s'.heap M' v (ZZ nm (page.map Prod.fst) has shall) ∧ z6 (Xx (env.qual ++ "<lambda>")) c.1 c.2) (fun _ _ => False) s:=by
 have R0 : Rm A 0:=R.le (by decide)
 have G:=HB.G
 obtain ⟨fe,fed,HD,hcall⟩:=HE.call (prog:=prog) (w:=w)
 show wpAny _ _ (execs (_ :: _ :: _ :: []) env) _ _ _
 refine' XA (k:=0) (pre:=[]) (post:=[]) (xs:=page.map zQ) (xd:=zC has) (px:=ofString "pair") (step:=Yt) HB T S hP hT R (ltD has) ?b1 ?b2 ?b3 (fun _ => rfl) (fun _ => rfl) (.head _) rfl ?b4 ?b5 ?b6 ?b7 (fun fd c' cl F => ?b8) ?b9 ?b10 ?b11 rfl ?b12
 case b1 | b4 | b5 | b6 | b7 => k_extra "kd"
 case b2 | b3 => k_extra "z"
 case b8 =>
  refine fun v s => ZU F ?_ v s
  intro fd v e1 e2 e3
  obtain ⟨f1,f2,f3,f4,f5,f6,f7,f8,f9,f10,f11,f12,f13,f14,f15⟩:=fd
  dsimp only at e1 e2 e3
  subst e1 e2 e3
  rfl
 case b9 =>
  intro d hd A2 env2 h2 M2 B2 X2 R2 hE
  obtain ⟨q,_,rfl⟩:=mem_map.mp hd
  refine' Ev.itemT (xs:=[zC q.1,zC q.2]) (i:=0) (j:=0) ?v1 ?v2 (by decide) (by decide) rfl rfl
  case v1 => exact Ev.rd (Ev.name hE (.head _) (by decide))
  case v2 => k_extra "z"
 case b10 => rw [length_map]; omega
 case b11 =>
  intro d hd
  obtain ⟨q,_,rfl⟩:=mem_map.mp hd
  exact zN.lt _ _
 case b12 =>
  intro ps' os' s' hT' S'
  rw [JA page hs has (ltD has) (fun n => by show decide ((n : Int) < (has : Int)) = _; rw [Bool.eq_iff_iff]; simp)] at S'
  clear S
  have S:=S'
  clear S'
  have hlo:=VI (page.map Prod.fst) has
  rw [length_map] at hlo
  have hsp:=(j7 has _ hs).1
  have htd:=QB has shall (yf (page.map Prod.fst) has) (page.map Prod.fst) hsp
  generalize hsn : yf (page.map Prod.fst) has = sn at S hlo hsp htd
  have hres : ZZ nm (page.map Prod.fst) has shall = .tup [match yw ((page.drop sn).map Prod.fst) has shall with | none => .none | some r => .str (nm r),zC sn]:=by
   unfold ZZ; rw [hsn,map_drop,htd]
  rw [hres]
  clear hres htd
  refine' xP (α:=Nat × Nat) (σ:=Unit) S R0 ?qv (dsrc:=.list ((page.drop sn).map zQ)) (page.drop sn) zQ (zj.list _) (fun y => [(ofString "row",.dat (zC y.1)),(ofString "turn",.dat (zC y.2))]) ?asg ?fs
   (fun _ => [(ofString "spot",.dat (zC sn)),(ofString "has",.dat (zC has)),(ofString "shall",.dat (zC shall)),(ofString "page",.dat (.list (page.map zQ))),(ofString "names",.dat (yB nm)),(ofString "wants",.dat (yB wt))]) (fun _ => [(P',.obs P' (tabObj ps') os')])
   (fun i _ => ∀ r ∈ ((page.drop sn).take i).map Prod.fst,X4 has shall r = false) (fun f _ h => ∃ v r,f = .ret v ∧ yw ((page.drop sn).map Prod.fst) has shall = some r ∧ Rp prog w h M v (.tup [.str (nm r),zC sn])) () ?hp0 ?rho rfl ?off ?turn ?done ?exit
  case qv =>
   refine' Ev.cast (kK.ev S.e (kK.slice (xs:=page.map zQ) (lo:=some (sn : Int)) (hi:=none) (st:=none) S.e ?z1 (zY.some ?z2) zY.none zY.none (by decide) ?z3)) ?z4
   case z1 | z2 => k_extra "z"
   case z3 => rw [length_map,sizeLine_eq]; omega
   case z4 => rw [WO _ _ (by rw [length_map]; exact hlo),map_drop]
  case asg => exact fun y _ => wu.tuple [(ofString "row",_),(ofString "turn",_)] rfl (by decide) (by k_extra "kd") rfl
  case fs => k_extra "fs"
  case hp0 => intro r hr; cases hr
  case rho => k_extra "sub"
  case off => intro c y; simp only [map_cons,map_nil]; k_extra "kd"
  case exit =>
   intro f c s' hb S'
   obtain ⟨v,r,rfl,e,rv⟩:=hb
   rw [e]
   exact ⟨v,_,_,_,(ps',os'),rfl,S',rv,hT'⟩
  case done =>
   clear S
   intro c s' hc S
   rw [take_length] at hc
   have e : yw ((page.drop sn).map Prod.fst) has shall = none:=List.find?_eq_none.mpr fun r hr => by
    have:=hc r hr
    rw [show (r &&& has == has && !(r &&& shall == shall)) = X4 has shall r from rfl,this]; simp
   rw [e]
   refine zD ?_
   show wpAny _ _ (execs (_ :: []) _) _ _ _
   refine' xO (d:=.tup [.none,zC sn]) S ?ra (fun v s' S' r => ⟨v,_,_,_,(ps',os'),rfl,S',r,hT'⟩)
   case ra => k_extra "z"
  case turn =>
   clear S
   intro i y c M' s₂ hy hc hMM S
   have hym : y ∈ page:=List.mem_of_mem_drop (mem_of_getElem? hy)
   have h16:=hp16 y hym
   have e1:=W.ell has y.1 hh h16
   have e2:=W.ell shall y.1 hsh h16
   have hlen:=W.len y.1 h16
   have f1:=hcall _ _ (W.fit has y.1 hh h16)
   have f2:=hcall _ _ (W.fit shall y.1 hsh h16)
   rw [e1] at f1
   rw [e2] at f2
   clear e1 e2
   show wpAny _ _ (execs (_ :: _ :: []) _) _ _ _
   refine' z7 (d:=.str (KS nm y.1)) S ?sa ?sb rfl ?sd
   case sb => k_extra "kd"
   case sa =>
    refine' Ev.bin (da:=.str (zn ++ nm y.1)) (db:=.str xX) S.e (Ev.rd (Ev.bin (da:=.str zn) (db:=.str (nm y.1)) S.e ?s1 (Ev.rd (Ev.item (xs:=(List.range 16).map fun n => .str (nm n)) (i:=(y.1 : Int)) ?s2 ?s3 (by omega) (by omega) (xZ nm h16))) (yC.addS _ _ ?s4))) ?s5 (yC.addS _ _ ?s6)
    case s1 | s2 | s3 | s5 => k_extra "z"
    case s4 => rw [sizeLine_eq,show zn.length = 1 from rfl]; omega
    case s6 => rw [sizeLine_eq,Str.length_append,show zn.length = 1 from rfl,show xX.length = 1 from rfl]; omega
   case sd =>
    k_extra "next"
    refine' xn (b:=X4 has shall y.1) S ?it ?ik
    case it =>
     refine' Tv.cast (Tv.and_cons (a:=qZ y.1 has) (b:=!qZ y.1 shall) (Tv.cmp (da:=.bool (qZ y.1 has)) (db:=.bool true) R0 (Ev.rd (Ev.call S.e (R.le (by decide)) (Ev.glob G S.e ?u1 (.inl HD.g) (by decide)) HD.keepy (yy.cons (Ev.rd (Ev.item (xs:=(List.range 16).map fun n => .str (wt n)) (i:=(has : Int)) ?u2 ?u3 (by omega) (by omega) (xZ wt hh))) (yy.cons ?u4 .nil fun _ => rfl) fun _ => rfl) f1)) ?u5 (zN.is (b:=qZ y.1 has) (by cases qZ y.1 has <;> rfl)) rfl) fun _ =>
       Tv.cast (Tv.and_cons (a:=!qZ y.1 shall) (b:=true) (Tv.cmp (da:=.bool (qZ y.1 shall)) (db:=.bool false) R0 (Ev.rd (Ev.call S.e (R.le (by decide)) (Ev.glob G S.e ?w1 (.inl HD.g) (by decide)) HD.keepy (yy.cons (Ev.rd (Ev.item (xs:=(List.range 16).map fun n => .str (wt n)) (i:=(shall : Int)) ?w2 ?w3 (by omega) (by omega) (xZ wt hsh))) (yy.cons ?w4 .nil fun _ => rfl) fun _ => rfl) f2)) ?w5 (zN.is (b:=!qZ y.1 shall) (by cases qZ y.1 shall <;> rfl)) rfl) fun _ => Tv.and_nil) (Bool.and_true _)) rfl
     case u1 | w1 => k_extra "kd"
     case u2 | u3 | u4 | u5 | w2 | w3 | w4 | w5 => k_extra "z"
    case ik =>
     k_extra "next"
     cases hb : X4 has shall y.1
     · simp only [false_eq_true,if_false]
       refine zD (zD ⟨(),_,_,S.sub ?q1, ?q2⟩)
       case q1 => k_extra "sub"
       case q2 =>
        intro r hr
        rw [take_add_one,hy,map_append] at hr
        rcases mem_append.mp hr with hr | hr
        · exact hc r hr
        · rw [mem_singleton.mp hr]; exact hb
     · simp only [if_true]
       have hin : i < (page.drop sn).length:=(List.getElem?_eq_some_iff.mp hy).1
       have ht : yw ((page.drop sn).map Prod.fst) has shall = some y.1:=by
        rw [j5,show (page.drop sn).map Prod.fst = ((page.drop sn).take i).map Prod.fst ++ ((page.drop sn).drop i).map Prod.fst by rw [← map_append,List.take_append_drop],List.find?_append]
        rw [List.find?_eq_none.mpr (fun r hr => by rw [hc r hr]; simp),List.drop_eq_getElem_cons hin,(List.getElem?_eq_some_iff.mp hy).2,map_cons,List.find?_cons_of_pos hb]
        rfl
       show wpAny _ _ (execs (_ :: []) _) _ _ _
       refine' xO (d:=.tup [.str (nm y.1),zC sn]) S ?ra (fun v s' S' r => ⟨(),_,_,S'.sub ?q1,v,y.1,rfl,ht,r.less hMM⟩)
       case q1 => k_extra "sub"
       case ra =>
        refine' Ev.tuple S.e (.cons (Ev.item (xs:=(List.range 16).map fun n => .str (nm n)) (i:=(y.1 : Int)) ?x1 ?x2 (by omega) (by omega) (xZ nm h16)) (.cons ?x3 .nil fun _ => rfl) fun _ => rfl) (by rw [sizeLine_eq]; simp)
        case x1 | x2 | x3 => k_extra "z"
section
variable {μ' μ₂ : List (Addr × D)}
noncomputable def EvS (prog : Program) (w : World) (A : Around) (B : Heap) (s₀ : Shared) (Own₀ M₀ : Addr → Prop) (names : zE) (env : Env) (Own M : Addr → Prop) (ρ : List (Str × RV)) (μ : List (Addr × D)) (e : Expr) (E : Value → Shared → Prop) (μ' : List (Addr × D)) (d : D) : Prop :=
 ∀ s,St prog w B s₀ Own₀ M₀ names env Own M ρ μ s → ∀ Q' : Value → Shared → Prop,(∀ v s',St prog w B s₀ Own₀ M₀ names env Own M ρ μ' s' → Rp prog w s'.heap M v d → Q' v s') → wpAny (model prog w) A (eval e env) Q' E s
noncomputable def ZE (prog : Program) (w : World) (A : Around) (B : Heap) (s₀ : Shared) (Own₀ M₀ : Addr → Prop) (names : zE) (env : Env) (Own M : Addr → Prop) (ρ : List (Str × RV)) (μ : List (Addr × D)) (t : Expr) (E : Value → Shared → Prop) (μ' : List (Addr × D)) (b : Bool) : Prop :=
 ∀ s,St prog w B s₀ Own₀ M₀ names env Own M ρ μ s → ∀ Q' : Bool → Shared → Prop,(∀ s',St prog w B s₀ Own₀ M₀ names env Own M ρ μ' s' → Q' b s') → wpAny (model prog w) A (isTrue t env (eval t env)) Q' E s
theorem ZE.of_tv {t : Expr} {b : Bool} (ht : ∀ s,St prog w B s₀ Own₀ M₀ names env Own M ρ μ s → Tv prog w A s.heap t env b) : ZE prog w A B s₀ Own₀ M₀ names env Own M ρ μ t E μ b :=
 fun s S Q' hQ => ht s S s E Q' (zS.refl _) fun s' k => hQ s' (S.step k)
theorem ZE.or_nil {p : Pos} : ZE prog w A B s₀ Own₀ M₀ names env Own M ρ μ (.BoolOp .Or [] p) E μ false:=fun s S Q' hQ => isTrue_or_nil (hQ s S)
theorem ZE.or_cons {x : Expr} {xs : List Expr} {p : Pos} {b : Bool} (hx : ZE prog w A B s₀ Own₀ M₀ names env Own M ρ μ x E μ₂ false) (hy : ZE prog w A B s₀ Own₀ M₀ names env Own M ρ μ₂ (.BoolOp .Or xs p) E μ' b) :
  ZE prog w A B s₀ Own₀ M₀ names env Own M ρ μ (.BoolOp .Or (x :: xs) p) E μ' b:=by
 intro s S Q' hQ
 refine isTrue_or (hx s S _ fun s₁ S₁ => ?_)
 exact hy s₁ S₁ Q' hQ
theorem ZE.cmpL {l r : Expr} {op : CmpOp} {p : Pos} {da db : D} {b : Bool} (R : Rm A 0) (hl : EvS prog w A B s₀ Own₀ M₀ names env Own M ρ μ l E μ' da) (hr : ∀ s,St prog w B s₀ Own₀ M₀ names env Own M ρ μ' s → Ev prog w A s.heap r env (PR prog w M db)) (ho : zN prog w op da db b) (hm : behindInMarks op r = false) :
  ZE prog w A B s₀ Own₀ M₀ names env Own M ρ μ (.Compare l [op] [r] p) E μ' b:=by
 intro s S Q' hQ
 refine wpAny_isTrue_Compare1 (hl s S _ fun a s₁ S₁ ra => ?_) hm
 refine hr s₁ S₁ s₁ E _ (zS.refl _) fun b s₂ k₂ rb => ?_
 exact ho A M s₂ E _ a b (by have:=R.hu; k_extra "o") (.inl (ra.ext (ke k₂))) rb fun s' k₃ => wpAny_truthy_bool (hQ s' (S₁.step (zA k₂ k₃)))
theorem ZE.cast' {t : Expr} {b b' : Bool} (x : ZE prog w A B s₀ Own₀ M₀ names env Own M ρ μ t E μ' b) (q : b = b') : ZE prog w A B s₀ Own₀ M₀ names env Own M ρ μ t E μ' b':=q ▸ x
theorem zAV {t : Expr} {body : List Stmt} {pos : Pos} (S : St prog w B s₀ Own₀ M₀ names env Own M ρ μ s) (ht : ZE prog w A B s₀ Own₀ M₀ names env Own M ρ μ t E μ' false)
  (k : ∀ s',St prog w B s₀ Own₀ M₀ names env Own M ρ μ' s' → wpAny (model prog w) A (execs rest env) Q E s') : wpAny (model prog w) A (execs (.If t body [] pos :: rest) env) Q E s:=by
 refine wpAny_execs_cons (wpAny_If (ht s S _ fun s₁ S₁ => ?_))
 exact wpAny_execs_nil (k s₁ S₁)
theorem XK (n : Nat) : vJ 0 n 1 = (List.range n).map fun i : Nat => (i : Int):=by
 unfold vJ
 have : (Builtin.Range.rangeSize 0 n 1).toNat = n:=by
  unfold Builtin.Range.rangeSize
  simp
  split <;> k_extra "o"
 rw [this]
 refine map_congr_left fun i _ => ?_
 k_extra "o"
theorem zj.nat {n : Nat} (hs : Builtin.Range.small 0 n 1 = true) : zj (.rng 0 n 1) ((List.range n).map fun i : Nat => D.int (i : Int)):=by
 have:=zj.rng hs
 rw [XK,map_map] at this
 exact this
end
noncomputable def wJ (nm : Nat → Str) (t : Nat × Nat × Nat) : Str × Str:=(if t.2.1 % 2 = 1 then zb (nm t.1) else nm t.1,nm t.2.2)
noncomputable abbrev zq (nm : Nat → Str) (tab : List (Nat × Nat × Nat)) : List (Str × Str):=tab.map (wJ nm)
noncomputable def xT (nm : Nat → Str) (o : Option Nat) : D:=match o with | none => .none | some r => .str (nm r)
noncomputable def jI (nm : Nat → Str) (e : Nat × Nat × Option Nat × Nat) : D:=.tup [zC e.1,zC e.2.1,xT nm e.2.2.1,zC e.2.2.2]
structure Yk (nm : Nat → Str) : Prop where
 one : ∀ i j,i < 16 → j < 16 → nm i = nm j → i = j
 low : ∀ r,r < 16 → xE (nm r) = true
 n1 : ∀ r,r < 16 → zg za (nm r) = true ∧ (nm r).cps.size < 2 ^ 63
 n2 : ∀ r,r < 16 → zg za (zb (nm r)) = true ∧ (zb (nm r)).cps.size < 2 ^ 63
 val : ∀ r,r < 16 → zg zm (nm r) = true ∧ yG jc [nm r] = true
structure Ky (B : Heap) (mg mb mN : Str → Option Value) (C N : Addr) : Prop where
 hdr : vr B mg mb C N mN
 ell : Y0 B mg mb
 bis : Jk B mg mb
 bm : Bm B mg
 range : mg "range" = none ∧ mb "range" = some (.type "range")
 sys : B.get? sysModules ≠ none
 hd : mg "Headers" = some (.ref C)
 br : ∃ f fd,zl B mg "_law_breaks" brS f fd ∧ ∀ a b s,BindsTo s fd ⟨[a,b],[]⟩ [(ofString "number",a),(ofString "rules",b)]
structure Z3 (env : Env) (f : Addr) (fo : Obj) (c' P' : Addr) (oc : Obj) : Prop where
 fn : ∃ fd cl,fo.data = .func fd ∧ ZN fd (wd teS) (.stmts (zB teS)) (zR teS) (qualnameIn env (ofString "_law_tell") (ofString "_law_tell")) c' cl ∧
  (∀ x c,cl.lookup x = some c → env.cells.lookup x = some c) ∧ (∀ x,(x,NameKind.free) ∈ (zR teS).names → (cl.lookup x).isSome = true)
 co : jW oc (qualnameIn env (ofString "_law_tell") (ofString "_law_tell"))
 hd : ∀ h2 : Heap,h2.get? c' = some oc → CodeHd h2 c' P'
noncomputable abbrev KD (env : Env) : List (Pos × Str):=Xx (qualnameIn env (ofString "_law_tell") (ofString "_law_tell") ++ ".<locals>." ++ "<lambda>")
theorem J5 (H : Ky B mg mb mN C N) {f P' c' : Addr} {fo oc : Obj} (HF : Z3 env f fo c' P' oc) {nm wt : Nat → Str} (W : Zv nm wt) {page : List (Nat × Nat)} (hpl : page.length ≤ 100) (hp16 : ∀ q ∈ page,q.1 < 16) (hs : (page.map Prod.fst).Pairwise (· ≤ ·)) {has shall : Nat} (hh : has < 16) (hsh : shall < 16)
  (R : Rm A 3) {pre post : List (Addr × D)} {ps : Array Value} {os : List (Addr × Obj)} (hT : z6 (KD env) ps os) (hO : Own P') {ρ : List (Str × RV)} (hte : (ofString "_law_tell",RV.dat (.obs f fo [(c',oc)])) ∈ ρ)
  (hpg : (ofString "page",RV.dat (.list (page.map zQ))) ∈ ρ) (hnm : (ofString "names",RV.dat (yB nm)) ∈ ρ) (hwt : (ofString "wants",RV.dat (yB wt)) ∈ ρ)
  (S : St prog w B s₀ Own₀ M₀ we env Own M ρ (pre ++ (P',.obs P' (tabObj ps) os) :: post) s) {xp pos : Pos} {e1 e2 : Expr} (x1 : Ev prog w A s.heap e1 env (PS prog w M (zC has))) (x2 : Ev prog w A s.heap e2 env (PS prog w M (zC shall)))
  (t1 : ∀ rest,starEach (e1 :: rest) env = (false,eval e1 env) :: starEach rest env) (t2 : ∀ rest,starEach (e2 :: rest) env = (false,eval e2 env) :: starEach rest env) {Q : Value → Shared → Prop}
  (hQ : ∀ v s' ps' os',z6 (KD env) ps' os' → St prog w B s₀ Own₀ M₀ we env Own M ρ (pre ++ (P',.obs P' (tabObj ps') os') :: post) s' → Rp prog w s'.heap M v (ZZ nm (page.map Prod.fst) has shall) → Q v s') :
  wpAny (model prog w) A (eval (.Call (.Name (ofString "_law_tell") xp) [e1,e2] [] pos) env) Q E s:=by
 obtain ⟨fd,cl,hfd,F,h1,h2⟩:=HF.fn
 have G:=H.hdr.G
 refine JR (ds:=[zC has,zC shall]) S hte (by decide) hfd (.cons x1 (.cons x2 .nil t2) t1) fun vs s₂ k₂ rs => ?_
 have S₂:=S.step k₂
 cases rs with | @cons v1 _ _ _ r1 rs => cases rs with | @cons v2 _ _ _ r2 rs => cases rs with | nil =>
 obtain ⟨u,hu,ru⟩:=S₂.e.vars _ _ hte
 obtain ⟨rfl,hfo,hfm,hfs⟩:=Rp.obs_inv ru
 obtain ⟨hc1,hc2⟩:=hfs _ (.head _)
 have PM:=S₂.own P' hO
 have hc0:=S₂.e.mem P' _ (mem_append_right _ (.head _))
 have hidv : ∀ {a : Addr} {o : Obj},¬ M a → s₂.heap.get? a = some o → (hideAll s₂.heap [P']).get? a = some o:=fun {a o} m e => hideAll_get _ e fun z => m (by rw [mem_singleton.mp z]; exact PM)
 have XB : zS B (hideAll s₂.heap [P']):=xg (h:=s₂.heap) [P'] S₂.e.base fun a z => by rw [mem_singleton.mp z]; exact S₂.base P' hO
 have K:=X6 S₂.e (scope:=zR teS) (by k_extra "kd") h1 h2
 have K2:=K.hide (wr:=[P']) fun a z => by
  rw [mem_singleton.mp z]
  exact ⟨PM,fun v q => zr hc0 q⟩
 refine Qp (B:=hideAll s₂.heap [P']) (k:=2) (ρ:=ρ) (xs:=[ofString "has",ofString "shall"]) (ds:=[zC has,zC shall]) (μk:=[(P',.obs P' (tabObj ps) os)]) (μk':=fun c : Array Value × List (Addr × Obj) => [(P',.obs P' (tabObj c.1) c.2)]) (Z:=fun c => z6 (KD env) c.1 c.2) (r:=ZZ nm (page.map Prod.fst) has shall)
  F (by decide +kernel) G.lim XB (hidv hfm hfo) hfd ?co K2 (V9 F ?bd v1 v2 s₂) (by decide) rfl (by k_extra "kd") (fun a y hm => ?ow) (by simp) R (yb _) S₂.e.old (.cons r1 (.cons r2 .nil)) (fun a y hm => ?mu) ?run fun v s' c hz ef hc rv => ?fin
 case co =>
  obtain ⟨us,t',q1,q2⟩:=HF.co
  exact ⟨c',oc,us,t',rfl,hidv hc2 hc1,q1,q2⟩
 case bd =>
  intro fd v u e1 e2 e3
  obtain ⟨f1,f2,f3,f4,f5,f6,f7,f8,f9,f10,f11,f12,f13,f14,f15⟩:=fd
  dsimp only at e1 e2 e3
  subst e1 e2 e3
  rfl
 case ow =>
  cases mem_singleton.mp hm
  exact ⟨PM,wU _ (.head _)⟩
 case mu =>
  cases mem_singleton.mp hm
  exact hc0
 case run =>
  intro A2 env2 Own2 M2 s3 R2 hL hO2 S3
  obtain ⟨L,rfl⟩:=hL
  have hq2 : (zW fd L f).qual = qualnameIn env (ofString "_law_tell") (ofString "_law_tell") ++ ".<locals>." := by show fd.qualname ++ _ = _; rw [F.qn]
  have T2 : Tb (hideAll s₂.heap [P']) mg (zW fd L f) P' (Xx ((zW fd L f).qual ++ "<lambda>")):=⟨⟨mb,G.ext XB⟩, ?bm,⟨c',F.code,HF.hd _ (hidv hc2 hc1)⟩,WU _⟩
  case bm =>
   obtain ⟨bm,o,b1,b2,b3,b4,b5⟩:=H.bm
   exact ⟨bm,o,b1,b2,b3,XB _ _ b4,b5⟩
  have S4:=S3.sub (ρ':=[(ofString "has",.dat (zC has)),(ofString "shall",.dat (zC shall)),(ofString "page",.dat (.list (page.map zQ))),(ofString "names",.dat (yB nm)),(ofString "wants",.dat (yB wt))]) (by
   refine all_cons kR (all_cons yY (all_cons ?_ (all_cons ?_ (all_cons ?_ all_nil))))
   · exact mem_append_right _ (jH hpg (by k_extra "kd"))
   · exact mem_append_right _ (jH hnm (by k_extra "kd"))
   · exact mem_append_right _ (jH hwt (by k_extra "kd")))
  refine wpAny_mono (VS (Jk.ext H.bis XB) (H.ell.ext XB) W hpl hp16 hs hh hsh R2 T2 (hO2 _ (.head _)) (by rw [hq2]; exact hT) S4) (fun fl s' q => ?_) fun _ _ x => x
  obtain ⟨v,ρ',Own',M',c,e,S5,rv,hz⟩:=q
  exact ⟨v,ρ',Own',M',c,e,S5,rv,by rw [hq2] at hz; exact hz⟩
 case fin =>
  obtain ⟨h4,tk4,rfl,kk4⟩:=ef
  exact hQ v _ c.1 c.2 hz (S₂.effect1 (h':=h4) (tk:=tk4) rfl hO (fun b o n e => kk4 b o (by simpa using n) e) (hc P' _ (.head _))) rv
noncomputable abbrev Ke (bk tl : D) (Lr Ll Ld : Addr) (page : List (Nat × Nat)) (nm wt : Nat → Str) : List (Str × RV) :=
 [(ofString "table",.dat bk),(ofString "rules",.adr Lr),(ofString "log",.adr Ll),(ofString "laid",.adr Ld),(ofString "_law_tell",.dat tl),(ofString "page",.dat (.list (page.map zQ))),(ofString "names",.dat (yB nm)),(ofString "wants",.dat (yB wt))]
noncomputable abbrev K0 (nm : Nat → Str) (Ld Ll Lr Lh P' P : Addr) (t₁ : Array Value × List (Addr × Obj)) (st : LS) (t₂ : Array Value × List (Addr × Obj)) : List (Addr × D) :=
 [(Ld,zu (zq nm st.tab)),(Ll,.list (st.log.map (jI nm))),(Lr,.list (st.rules.map zQ)),(Lh,zu (zq nm st.tab)),(P',.obs P' (tabObj t₂.1) t₂.2),(P,.obs P (tabObj t₁.1) t₁.2)]
structure Xq (k : Nat) (st : LS) : Prop where
 tab : st.tab.length ≤ k
 log : st.log.length ≤ k
 rules : st.rules.length ≤ k
 rows : ∀ t ∈ st.tab,t.1 < 16 ∧ t.2.2 < 16
theorem Xq.le {k j : Nat} {st : LS} (h : Xq k st) (e : k ≤ j) : Xq j st:=⟨le_trans h.tab e,le_trans h.log e,le_trans h.rules e,h.rows⟩
theorem Xq.rule {k : Nat} {st : LS} {p : Nat × Nat} {e : Nat × Nat × Option Nat × Nat} (h : Xq k st) : Xq (k + 1) { st with rules:=st.rules ++ [p],log:=st.log ++ [e] } :=
 ⟨Nat.le_succ_of_le h.tab,by show (st.log ++ [e]).length ≤ _; rw [length_append]; exact succ_le_succ h.log,by show (st.rules ++ [p]).length ≤ _; rw [length_append]; exact succ_le_succ h.rules,h.rows⟩
theorem Xq.row {k a i r : Nat} {st : LS} {e : Nat × Nat × Option Nat × Nat} (h : Xq k st) (ha : a < 16) (hr : r < 16) : Xq (k + 1) { st with tab:=st.tab ++ [(a,i,r)],log:=st.log ++ [e] } :=
 ⟨by show (st.tab ++ [_]).length ≤ _; rw [length_append]; exact succ_le_succ h.tab,by show (st.log ++ [e]).length ≤ _; rw [length_append]; exact succ_le_succ h.log,Nat.le_succ_of_le h.rules,fun t ht => by
  rcases mem_append.mp ht with ht | ht
  · exact h.rows t ht
  · rw [mem_singleton.mp ht]; exact ⟨ha,hr⟩⟩
theorem Kd : ∀ i : Fin 5,Builtin.divisionGoesByPylong (i.val : Int) 2 = false:=by decide +kernel
theorem VH {rows : List Nat} {has shall r : Nat} (h : yw rows has shall = some r) : r ∈ rows:=(Zz h).1
theorem kO (l : List (Str × Str)) (y : Str × Str) : zu (l ++ [y]) = .list (l.map zy ++ [zy y]):=by unfold zu; rw [map_append]; rfl
theorem Qb (t : Nat) : ((t : Int).fmod 2 != 0) = decide (t % 2 = 1):=by
 have : (t : Int).fmod 2 = ((t % 2 : Nat) : Int):=by rw [Int.fmod_eq_emod_of_nonneg _ (by decide)]; rfl
 rw [this]
 have h : t % 2 = 0 ∨ t % 2 = 1:=Nat.mod_two_eq_zero_or_one t
 rcases h with h | h <;> rw [h] <;> rfl
noncomputable def J6 (yJ : List Nat) (has : Nat) (st₀ : LS) (n i k : Nat) (q : List (Pos × Str)) : Flow → LS × (Array Value × List (Addr × Obj)) → Prop
 | .next,c => yg yJ has n 0 st₀ = yg yJ has (n - (i + 1)) (i + 1) c.1 ∧ Xq (k + 1) c.1 ∧ z6 q c.2.1 c.2.2
 | .brk,c => yg yJ has n 0 st₀ = c.1 ∧ Xq (k + 1) c.1 ∧ z6 q c.2.1 c.2.2
 | _,_ => False
theorem J7 (H : Ky B mg mb mN C N) {f P' P c' Ld Ll Lr Lh : Addr} {fo oc : Obj} (HF : Z3 env f fo c' P' oc) {nm wt : Nat → Str} (W : Zv nm wt) (HW : Yk nm) {page : List (Nat × Nat)} (hpl : page.length ≤ 100) (hp16 : ∀ q ∈ page,q.1 < 16) (hs : (page.map Prod.fst).Pairwise (· ≤ ·)) {has i n k : Nat} (hh : has < 16) (hi : i < n) (hi5 : i < 5) (hk : k ≤ 200)
  (R : Rm A 3) {bk : D} (hI : wp prog w bk C Lh) {t₁ : Array Value × List (Addr × Obj)} {st₀ : LS} {c : LS × (Array Value × List (Addr × Obj))} (hc1 : yg (page.map Prod.fst) has n 0 st₀ = yg (page.map Prod.fst) has (n - i) i c.1) (hc2 : Xq k c.1) (hc3 : z6 (KD env) c.2.1 c.2.2)
  (o1 : Own Ld) (o2 : Own Ll) (o3 : Own Lr) (o4 : Own Lh) (o5 : Own P')
  (S : St prog w B s₀ Own₀ M₀ we env Own M ((ofString "turn",.dat (zC i)) :: (ofString "has",.dat (zC has)) :: Ke bk (.obs f fo [(c',oc)]) Lr Ll Ld page nm wt) (K0 nm Ld Ll Lr Lh P' P t₁ c.1 c.2) s)
  (hQ : ∀ fl d s',J6 (page.map Prod.fst) has st₀ n i k (KD env) fl d → St prog w B s₀ Own₀ M₀ we env Own M ((ofString "has",.dat (zC has)) :: Ke bk (.obs f fo [(c',oc)]) Lr Ll Ld page nm wt) (K0 nm Ld Ll Lr Lh P' P t₁ d.1 d.2) s' → Q fl s') :
  wpAny (model prog w) A (execs (YZ ((YZ ((zB Jo).getD 2 W8)).getD 0 W8)) env) Q E s:=by
 have R0 : Rm A 0:=R.le (by decide)
 have G:=H.hdr.G
 have hni : n - i = (n - (i + 1)) + 1:=(Nat.sub_add_cancel (Nat.sub_pos_of_lt hi)).symm
 rw [hni,XW] at hc1
 have htl:=hc2.tab
 show wpAny _ _ (execs (_ :: _ :: _ :: _ :: _ :: _ :: _ :: _ :: []) env) _ _ _
 refine' z7 (d:=zC 15) S ?sa ?sb rfl ?sd
 case sb => k_extra "kd"
 case sa => k_extra "z"
 case sd =>
  k_extra "next"
  refine' xP (α:=Nat) (σ:=Nat) S R0 ?qv (dsrc:=.list ((zJ c.1.tab).map zC)) (zJ c.1.tab) zC (zj.list _) (fun y => [(ofString "row",.dat (zC y))]) ?asg ?fs
   (fun sh => (ofString "shall",.dat (zC sh)) :: (ofString "turn",.dat (zC i)) :: (ofString "has",.dat (zC has)) :: Ke bk (.obs f fo [(c',oc)]) Lr Ll Ld page nm wt) (fun _ => K0 nm Ld Ll Lr Lh P' P t₁ c.1 c.2)
   (fun j sh => sh = zI ((zJ c.1.tab).take j) has) (fun _ _ _ => False) 15 rfl ?rho rfl ?off ?turn ?done (fun _ _ _ h _ => h.elim)
  case qv =>
   obtain ⟨gf,gfd,g1,g2,g3⟩:=H.hdr.vals
   refine' Ev.cast (Ev.comp1 S.e R0 ?c1 (dsrc:=.list ((zq nm c.1.tab).map fun y => .str y.2)) ?c2 c.1.tab (fun t => .str (nm t.2.2)) ?c3 (fun t => zC t.2.2) ?c4 (by rw [sizeLine_eq]; omega) ?c5 ?c6) ?c7
   case c1 | c4 => k_extra "kd"
   case c2 =>
    refine' Ev.rd (Ev.imeth (rs:=[]) S.e ?qo hI H.hdr.cls g1 g2 H.hdr.nga H.hdr.nge jT (if_neg (by decide)) .nil ?hcall rfl)
    case qo => k_extra "z"
    case hcall =>
      intro x vs s₂ E2 Q2 X1 old2 X2 rx rvs hq
      cases rvs
      exact jP H.hdr g2 g3 (ys:=zq nm c.1.tab) (R.le (by decide)) X2 old2 hI rx ((S.e.mem Lh _ qE).ext X1) (by rw [length_map]; omega) hq
   case c3 => rw [map_map]; exact .list _
   case c5 => k_extra "fs"
   case c6 =>
    intro t ht env' h' M' kx hE
    have h16:=(hc2.rows t ht).2
    refine' Ev.meth (T := "list") hE R0 ?m1 rfl PySem.F.plainAttrs_list PySem.F.slot_list_index PySem.F.type_list_index (yy.cons ?m2 .nil fun _ => rfl) rfl (by decide) rfl (zG.index ((List.range 16).map nm) (nm t.2.2) t.2.2 ?m3 (fun j hj => ?m4) (by rw [length_map,length_range]; decide))
    case m1 => rw [map_map]; show Ev _ _ _ _ _ _ (PR _ _ _ (yB nm)); k_extra "z"
    case m2 => k_extra "z"
    case m3 => rw [getElem?_map,getElem?_range h16]; rfl
    case m4 =>
      rw [getElem?_map,getElem?_range (by omega)]
      intro e
      have:=HW.one j t.2.2 (by omega) h16 (Option.some.inj e)
      omega
   case c7 => unfold zJ; rw [map_map]; rfl
  case asg => exact fun y _ => wu.name (by k_extra "kd")
  case fs => k_extra "fs"
  case rho => k_extra "sub"
  case off => intro c y; k_extra "kd"
  case turn =>
   clear S
   intro j y sh M' s₂ hy hc hMM S
   have hn : zI ((zJ c.1.tab).take (j + 1)) has = if (y &&& has == has) = true then sh &&& y else sh:=by rw [take_add_one,hy,hc]; exact w7 _ _ _
   show wpAny _ _ (execs (_ :: []) _) _ _ _
   refine' xn (b:=y &&& has == has) S ?it ?ik
   case it =>
    refine' Tv.cmp R0 (Ev.rd (Ev.bin S.e ?u1 ?u2 (yC.andN _ _))) ?u3 (zN.eqN _ _) rfl
    case u1 | u2 | u3 => k_extra "z"
   case ik =>
    k_extra "next"
    cases hb : (y &&& has == has)
    · rw [hb] at hn
      simp only [false_eq_true,if_false] at hn ⊢
      exact zD (zD ⟨sh,_,_,S.sub (by k_extra "sub"),hn.symm⟩)
    · rw [hb] at hn
      simp only [if_true] at hn ⊢
      refine' z7 (d:=zC (sh &&& y)) S ?v1 ?v2 rfl ?v3
      case v2 => k_extra "kd"
      case v1 =>
       refine' Ev.bin S.e ?u1 ?u2 (yC.andN _ _)
       case u1 | u2 => k_extra "z"
      case v3 =>
       k_extra "next"
       exact zD (zD ⟨sh &&& y,_,_,S.sub (by k_extra "sub"),hn.symm⟩)
  case done =>
   clear S
   intro sh s' hsh S
   rw [take_length] at hsh
   have hsh16 : sh < 16:=by rw [hsh]; exact yU _ _
   rw [← hsh] at hc1
   refine zD ?_
   show wpAny _ _ (execs (_ :: _ :: _ :: _ :: _ :: _ :: []) env) _ _ _
   refine' xn (b:=sh == has) S ?it ?ik
   case it =>
    refine' Tv.cmp R0 ?u1 ?u2 (zN.eqN _ _) rfl
    case u1 | u2 => k_extra "z"
   case ik =>
    k_extra "next"
    cases hb : sh == has
    · rw [hb] at hc1
      simp only [false_eq_true,if_false] at hc1 ⊢
      refine zD ?_
      show wpAny _ _ (execs (_ :: _ :: _ :: _ :: _ :: []) env) _ _ _
      refine' QV (bs:=[(ofString "told",.dat (xT nm (yw (page.map Prod.fst) has sh))),(ofString "spot",.dat (zC (yf (page.map Prod.fst) has)))]) R0.hh rfl rfl (J5 H HF W hpl hp16 hs hh hsh16 R (pre:=[(Ld,_),(Ll,_),(Lr,_),(Lh,_)]) (post:=[(P,_)]) hc3 o5 ?g1 ?g2 ?g3 ?g4 S ?g5 ?g6 (fun _ => rfl) (fun _ => rfl) fun v s₂ ps' os' hT' S₂ rv => ?g7)
      case g1 | g2 | g3 | g4 => k_extra "mem"
      case g5 | g6 => k_extra "z"
      case g7 =>
       refine ⟨Own,M,_,_,ZZ nm (page.map Prod.fst) has sh,S₂,rv, ?h1,fun s' S' => ?h2⟩
       case h1 => exact wu.tuple [(ofString "told",_),(ofString "spot",_)] (ds:=[xT nm (yw (page.map Prod.fst) has sh),zC (yf (page.map Prod.fst) has)]) rfl (by decide) (by k_extra "kd") rfl
       case h2 =>
        clear S S₂
        have S:=S'.sub (ρ':=(ofString "told",.dat (xT nm (yw (page.map Prod.fst) has sh))) :: (ofString "spot",.dat (zC (yf (page.map Prod.fst) has))) :: (ofString "shall",.dat (zC sh)) :: (ofString "turn",.dat (zC i)) :: (ofString "has",.dat (zC has)) :: Ke bk (.obs f fo [(c',oc)]) Lr Ll Ld page nm wt) (by k_extra "sub")
        clear S'
        show wpAny _ _ (execs (_ :: _ :: _ :: _ :: []) env) _ _ _
        refine' wm (pre:=[(Ld,_)]) (post:=[(Lr,_),(Lh,_),(P',_),(P,_)]) (d:=.list (c.1.log.map (jI nm))) (ds:=[jI nm (has,sh,yw (page.map Prod.fst) has sh,yf (page.map Prod.fst) has)]) S R0 ?m1 ?m2 rfl o2 rfl ?m3 ?m4 ?m5 ?m6 (by rfl) (by rfl) (wI.append _ _ ?m7) ?m8
        case m1 => k_extra "mem"
        case m2 => k_extra "kd"
        case m3 => k_extra "pa"
        case m4 => k_extra "slot"
        case m5 => k_extra "mty"
        case m6 =>
         refine .cons (Ev.tuple S.e (.cons ?x1 (.cons ?x2 (.cons ?x3 (.cons ?x4 .nil fun _ => rfl) fun _ => rfl) fun _ => rfl) fun _ => rfl) (by rw [sizeLine_eq]; simp)) .nil (fun _ => rfl)
         case x1 | x2 | x3 | x4 => k_extra "z"
        case m7 => have:=hc2.log; rw [length_map,sizeLine_eq]; omega
        case m8 =>
         clear S
         intro s' S
         rw [show c.1.log.map (jI nm) ++ [jI nm (has,sh,yw (page.map Prod.fst) has sh,yf (page.map Prod.fst) has)] = (c.1.log ++ [(has,sh,yw (page.map Prod.fst) has sh,yf (page.map Prod.fst) has)]).map (jI nm) from (map_append (l₂:=[_])).symm] at S
         cases htell : yw (page.map Prod.fst) has sh with
         | none =>
          rw [htell] at S hc1
          dsimp only [xT] at S
          refine' xn (b:=true) S ?j1 ?j2
          case j1 =>
           refine' Tv.cmp (da:=.none) (db:=.none) R0 ?u1 ?u2 (zN.is rfl) rfl
           case u1 | u2 => k_extra "z"
          case j2 =>
           clear S
           intro s' S
           simp only [if_true]
           refine' wm (pre:=[(Ld,_),(Ll,_)]) (post:=[(Lh,_),(P',_),(P,_)]) (d:=.list (c.1.rules.map zQ)) (ds:=[zQ (has,sh)]) S R0 ?m1 ?m2 rfl o3 rfl ?m3 ?m4 ?m5 ?m6 (by rfl) (by rfl) (wI.append _ _ ?m7) ?m8
           case m1 => k_extra "mem"
           case m2 => k_extra "kd"
           case m3 => k_extra "pa"
           case m4 => k_extra "slot"
           case m5 => k_extra "mty"
           case m6 =>
            refine .cons (Ev.tuple S.e (.cons ?x1 (.cons ?x2 .nil fun _ => rfl) fun _ => rfl) (by rw [sizeLine_eq]; simp)) .nil (fun _ => rfl)
            case x1 | x2 => k_extra "z"
           case m7 => have:=hc2.rules; rw [length_map,sizeLine_eq]; omega
           case m8 =>
            clear S
            intro s' S
            rw [show c.1.rules.map zQ ++ [zQ (has,sh)] = (c.1.rules ++ [(has,sh)]).map zQ from (map_append (l₂:=[_])).symm] at S
            refine wpAny_execs_cons (wpAny_Break (hQ .brk ({ c.1 with rules:=c.1.rules ++ [(has,sh)],log:=c.1.log ++ [(has,sh,none,yf (page.map Prod.fst) has)] },(ps',os')) _ ⟨hc1,hc2.rule,hT'⟩ (S.sub (by k_extra "sub"))))
         | some r =>
          rw [htell] at S hc1
          have hr16 : r < 16:=by
           obtain ⟨q,hq,rfl⟩:=mem_map.mp (VH htell)
           exact hp16 q hq
          dsimp only [xT] at S
          refine' xn (b:=false) S ?j1 ?j2
          case j1 =>
           refine' Tv.cmp (da:=.str (nm r)) (db:=.none) R0 ?u1 ?u2 (zN.is rfl) rfl
           case u1 | u2 => k_extra "z"
          case j2 =>
           clear S
           intro s' S
           simp only [false_eq_true,if_false]
           refine zD ?_
           show wpAny _ _ (execs (_ :: _ :: []) env) _ _ _
           refine' wm (pre:=[]) (post:=[(Ll,_),(Lr,_),(Lh,_),(P',_),(P,_)]) (d:=zu (zq nm c.1.tab)) (ds:=[zy (wJ nm (has,i,r))]) S R0 ?m1 ?m2 rfl o1 rfl ?m3 ?m4 ?m5 ?m6 (by rfl) (by rfl) (wI.append _ _ ?m7) ?m8
           case m1 => k_extra "mem"
           case m2 => k_extra "kd"
           case m3 => k_extra "pa"
           case m4 => k_extra "slot"
           case m5 => k_extra "mty"
           case m6 =>
            refine .cons (Ev.tuple S.e (.cons (d:=.str (wJ nm (has,i,r)).1) ?x1 (.cons ?x2 .nil fun _ => rfl) fun _ => rfl) (by rw [sizeLine_eq]; simp)) .nil (fun _ => rfl)
            case x2 => show Ev _ _ _ _ _ _ (PS _ _ _ (.str (nm r))); k_extra "z"
            case x1 =>
             refine' Ev.cast (Ev.ifExp (d:=.str (zb (nm has))) (e:=.str (nm has)) (Tv.plain (Ev.rd (Ev.bin (da:=.int i) (db:=.int 2) S.e ?y1 ?y2 (yC.mod _ _ (by decide) ?y3))) (ym.int _) rfl) (fun _ => ?y4) (fun _ => ?y5)) ?y6
             case y1 | y2 => k_extra "z"
             case y3 => exact Kd ⟨i,hi5⟩
             case y4 => exact Ev.lower S.e R0 (Ev.rd (Ev.item (xs:=(List.range 16).map fun n => .str (nm n)) (i:=(has : Int)) (by k_extra "z") (by k_extra "z") (by omega) (by omega) (xZ nm hh))) (HW.low has hh) rfl rfl
             case y5 => exact Ev.item (xs:=(List.range 16).map fun n => .str (nm n)) (i:=(has : Int)) (by k_extra "z") (by k_extra "z") (by omega) (by omega) (xZ nm hh)
             case y6 => rw [Qb]; unfold wJ; by_cases ho : i % 2 = 1 <;> simp [ho]
           case m7 => rw [length_map,length_map,sizeLine_eq]; omega
           case m8 =>
            clear S
            intro s' S
            rw [nil_append] at S
            obtain ⟨gf,gfd,g1,g2,g3⟩:=H.hdr.addh
            have ha : (wJ nm (has,i,r)).1 = zb (nm has) ∨ (wJ nm (has,i,r)).1 = nm has:=by unfold wJ; by_cases ho : i % 2 = 1 <;> simp [ho]
            have hn : zg za (wJ nm (has,i,r)).1 = true ∧ (wJ nm (has,i,r)).1.cps.size < 2 ^ 63:=by
             rcases ha with e | e <;> rw [e]
             · exact HW.n2 has hh
             · exact HW.n1 has hh
            have hv:=HW.val r hr16
            have hv2:=(HW.n1 r hr16).2
            refine' xf S.e.n (kL (rs:=[.dat (.str (wJ nm (has,i,r)).1),.dat (.str (nm r))]) S.e ?qo hI H.hdr.cls g1 g2 H.hdr.nga H.hdr.nge VP (if_neg (by decide)) (.cons (r:=.dat (.str (wJ nm (has,i,r)).1)) ?e1 (.cons (r:=.dat (.str (nm r))) ?e2 .nil fun _ => rfl) fun _ => rfl) (fun x vs s₂ ks rx rvs => ?hq) rfl) rfl
            case qo | e2 => k_extra "z"
            case e1 =>
             refine' Ev.itemT (xs:=[.str (wJ nm (has,i,r)).1,.str (nm r)]) (i:=0) (j:=0) (Ev.rd (Ev.itemNeg (xs:=List.map zy (zq nm c.1.tab) ++ [zy (wJ nm (has,i,r))]) (i:=-1) ?y1 ?y2 (by decide) ?y3 (by decide) ?y4)) ?y5 (by decide) (by decide) rfl rfl
             case y1 | y2 | y5 => k_extra "z"
             case y3 => simp; omega
             case y4 =>
               rw [show ((-1 : Int) + ((List.map zy (zq nm c.1.tab) ++ [zy (wJ nm (has,i,r))]).length : Nat)).toNat = (List.map zy (zq nm c.1.tab)).length by rw [length_append,List.length_singleton]; exact Qe _]
               rw [List.getElem?_append_right (le_refl _),Nat.sub_self]; rfl
            case hq =>
             refine zP.use2 rvs fun w1 w2 q1 q2 => ?_
             have S₂:=S.step ks
             refine ZS H.hdr g2 g3 (M₁:=M) (rows:=(zq nm c.1.tab).map zy) (nm:=(wJ nm (has,i,r)).1) (tx:=nm r) (R.le (by decide)) S₂.e.base S₂.e.old hI rx q1 q2 (S₂.own Lh o4) (S₂.base Lh o4) (S₂.e.mem Lh _ qE) (by rw [length_map,length_map]; omega) H.sys hn.1 hn.2 hv.1 hv2 hv.2 fun s₃ ef c3 => ?_
             obtain ⟨h3,tk3,rfl,kk3⟩:=ef
             have S₃:=S₂.effect1 (pre:=[(Ld,_),(Ll,_),(Lr,_)]) (post:=[(P',_),(P,_)]) (h':=h3) (tk:=tk3) rfl o4 (fun b o n e => kk3 b o (by simpa using n) e) c3
             have e : zu (zq nm (c.1.tab ++ [(has,i,r)])) = .list ((zq nm c.1.tab).map zy ++ [zy (wJ nm (has,i,r))]):=by unfold zq; rw [map_append]; exact kO _ _
             refine zD (hQ .next ({ c.1 with tab:=c.1.tab ++ [(has,i,r)],log:=c.1.log ++ [(has,sh,some r,yf (page.map Prod.fst) has)] },(ps',os')) _ ⟨hc1,hc2.row hh hr16,hT'⟩ ?fs)
             case fs =>
               unfold K0
               rw [e]
               exact S₃.sub (by k_extra "sub")
    · rw [hb] at hc1
      simp only [if_true] at hc1 ⊢
      refine wpAny_execs_cons (wpAny_Break (hQ .brk (c.1,c.2) _ ⟨hc1,hc2.le (by omega),hc3⟩ (S.sub (by k_extra "sub"))))
theorem Xu (yJ : List Nat) (i : Nat) : (List.range (i + 1)).foldl (vY yJ) ⟨[],[],[]⟩ = vY yJ ((List.range i).foldl (vY yJ) ⟨[],[],[]⟩) i:=by rw [range_succ,foldl_append]; rfl
theorem zAz (H : Ky B mg mb mN C N) {f P' P c' Ld Ll Lr Lh : Addr} {fo oc : Obj} (HF : Z3 env f fo c' P' oc) {nm wt : Nat → Str} (W : Zv nm wt) (HW : Yk nm) {page : List (Nat × Nat)} (hpl : page.length ≤ 100) (hp16 : ∀ q ∈ page,q.1 < 16) (hs : (page.map Prod.fst).Pairwise (· ≤ ·))
  (R : Rm A 3) {bk : D} (hI : wp prog w bk C Lh) {t₁ t₂ : Array Value × List (Addr × Obj)} (hc3 : z6 (KD env) t₂.1 t₂.2)
  (o1 : Own Ld) (o2 : Own Ll) (o3 : Own Lr) (o4 : Own Lh) (o5 : Own P')
  (S : St prog w B s₀ Own₀ M₀ we env Own M (Ke bk (.obs f fo [(c',oc)]) Lr Ll Ld page nm wt) (K0 nm Ld Ll Lr Lh P' P t₁ ⟨[],[],[]⟩ t₂) s)
  (hQ : ∀ t₂ s',(yS (page.map Prod.fst)).log.length ≤ 80 → (yS (page.map Prod.fst)).rules.length ≤ 80 → (yS (page.map Prod.fst)).tab.length ≤ 80 → St prog w B s₀ Own₀ M₀ we env Own M (Ke bk (.obs f fo [(c',oc)]) Lr Ll Ld page nm wt) (K0 nm Ld Ll Lr Lh P' P t₁ (yS (page.map Prod.fst)) t₂) s' → wpAny (model prog w) A (execs ((zB Jo).drop 3) env) Q E s') :
  wpAny (model prog w) A (execs ((zB Jo).drop 2) env) Q E s:=by
 have R0 : Rm A 0:=R.le (by decide)
 have G:=H.hdr.G
 have hr:=H.range
 show wpAny _ _ (execs (_ :: (zB Jo).drop 3) env) _ _ _
 refine' xP (α:=Nat) (σ:=LS × (Array Value × List (Addr × Obj))) S R0 ?qv (dsrc:=.rng 0 (16 : Nat) 1) (List.range 16) zC (zj.nat (by decide)) (fun y => [(ofString "has",.dat (zC y))]) ?asg ?fs
  (fun _ => Ke bk (.obs f fo [(c',oc)]) Lr Ll Ld page nm wt) (fun c => K0 nm Ld Ll Lr Lh P' P t₁ c.1 c.2)
  (fun i c => c.1 = (List.range i).foldl (vY (page.map Prod.fst)) ⟨[],[],[]⟩ ∧ Xq (5 * i) c.1 ∧ z6 (KD env) c.2.1 c.2.2) (fun _ _ _ => False) (⟨[],[],[]⟩,t₂) ?hp0 ?rho rfl ?off ?turn ?done (fun _ _ _ h _ => h.elim)
 case qv => k_extra "z"
 case asg => exact fun y _ => wu.name (by k_extra "kd")
 case fs => k_extra "fs"
 case hp0 => exact ⟨rfl,⟨le_refl _,le_refl _,le_refl _,fun _ h => (nomatch h)⟩,hc3⟩
 case rho => k_extra "sub"
 case off => intro c y; k_extra "kd"
 case done =>
  clear S
  intro c s' hc S
  obtain ⟨h1,h2,h3⟩:=hc
  rw [length_range] at h1 h2
  have h1 : c.1 = yS (page.map Prod.fst):=h1
  rw [h1] at S h2
  exact zD (hQ c.2 s' h2.log h2.rules h2.tab S)
 case turn =>
  clear S hQ
  intro i has c M' s₁ hy hc hMM S
  obtain ⟨h1,h2,h3⟩:=hc
  have hi : i < 16:=by have:=(List.getElem?_eq_some_iff.mp hy).1; rwa [length_range] at this
  have he : has = i:=by rw [getElem?_range hi] at hy; exact (Option.some.inj hy).symm
  subst he
  have hn : (List.range (has + 1)).foldl (vY (page.map Prod.fst)) ⟨[],[],[]⟩ = vY (page.map Prod.fst) c.1 has:=by rw [Xu,h1]
  clear h1
  obtain ⟨bf,bfd,HB,hbb⟩:=H.br
  have hrl:=h2.rules
  have hcb:=Wi (prog:=prog) (w:=w) G HB hbb has c.1.rules (by omega)
  show wpAny _ _ (execs (_ :: []) _) _ _ _
  refine' xP (α:=Nat) (σ:=LS × (Array Value × List (Addr × Obj))) S R0 ?qv2 (dsrc:=.rng 0 ((if breaks has c.1.rules then 0 else 5 : Nat) : Int) 1) (List.range (if breaks has c.1.rules then 0 else 5)) zC (zj.nat ?sm) (fun y => [(ofString "turn",.dat (zC y))]) ?asg2 ?fs2
   (fun _ => (ofString "has",.dat (zC has)) :: Ke bk (.obs f fo [(c',oc)]) Lr Ll Ld page nm wt) (fun d => K0 nm Ld Ll Lr Lh P' P t₁ d.1 d.2)
   (fun j d => yg (page.map Prod.fst) has (if breaks has c.1.rules then 0 else 5) 0 c.1 = yg (page.map Prod.fst) has ((if breaks has c.1.rules then 0 else 5) - j) j d.1 ∧ Xq (5 * has + j) d.1 ∧ z6 (KD env) d.2.1 d.2.2)
   (fun fl d _ => fl = .brk ∧ yg (page.map Prod.fst) has (if breaks has c.1.rules then 0 else 5) 0 c.1 = d.1 ∧ Xq (5 * (has + 1)) d.1 ∧ z6 (KD env) d.2.1 d.2.2) c ?hp2 ?rho2 rfl ?off2 ?turn2 ?done2 ?exit2
  case qv2 =>
   refine' Ev.call S.e R0 (Ev.glob G S.e ?e1 (.inr hr) (by decide)) ?e2 (yy.cons (Ev.rd (Ev.cast (Ev.bin (da:=.int 5) (db:=.bool (!breaks has c.1.rules)) S.e ?e3 (Ev.rd (Ev.not (Ev.rd (Ev.call S.e (R.le (by decide)) (Ev.glob G S.e ?e4 (.inl HB.g) (by decide)) HB.keepy (yy.cons ?e5 (yy.cons ?e6 .nil fun _ => rfl) fun _ => rfl) hcb)) (ym.bool _))) (yC.mulIB _ _)) (d':=.int ((if breaks has c.1.rules then 0 else 5 : Nat) : Int)) ?e7)) .nil fun _ => rfl) (zG.range1 _)
   case e1 | e4 => k_extra "kd"
   case e2 | e3 | e5 | e6 => k_extra "z"
   case e7 => cases breaks has c.1.rules <;> rfl
  case sm => cases breaks has c.1.rules <;> decide
  case asg2 => exact fun y _ => wu.name (by k_extra "kd")
  case fs2 => k_extra "fs"
  case hp2 => exact ⟨rfl,h2,h3⟩
  case rho2 => k_extra "sub"
  case off2 => intro c y; k_extra "kd"
  case exit2 =>
   intro fl d s' hb S'
   obtain ⟨rfl,g1,g2,g3⟩:=hb
   exact zD ⟨d,_,_,S'.sub (by k_extra "sub"),by rw [hn]; exact ⟨g1.symm,g2,g3⟩⟩
  case done2 =>
   clear S
   intro d s' hd S
   obtain ⟨g1,g2,g3⟩:=hd
   rw [length_range,Nat.sub_self] at g1
   refine zD (zD ⟨d,_,_,S.sub (by k_extra "sub"), ?_⟩)
   rw [hn]
   exact ⟨g1.symm,g2.le (by rw [length_range]; cases breaks has c.1.rules <;> simp <;> omega),g3⟩
  case turn2 =>
   clear S
   intro j t d M'' s₂ hy2 hd hMM2 S
   obtain ⟨g1,g2,g3⟩:=hd
   have hj : j < (if breaks has c.1.rules then 0 else 5):=by have:=(List.getElem?_eq_some_iff.mp hy2).1; rwa [length_range] at this
   have hj5 : j < 5:=by revert hj; cases breaks has c.1.rules <;> simp
   have he2 : t = j:=by rw [getElem?_range hj] at hy2; exact (Option.some.inj hy2).symm
   subst he2
   refine J7 H HF W HW hpl hp16 hs hi hj hj5 (k:=5 * has + t) (by omega) R hI g1 g2 g3 o1 o2 o3 o4 o5 S fun fl d' s' ht S' => ?_
   cases fl with
   | next => exact ⟨d',_,_,S',ht.1,ht.2.1,ht.2.2⟩
   | brk => exact ⟨d',_,_,S',rfl,ht.1,ht.2.1.le (by omega),ht.2.2⟩
   | _ => exact ht.elim
noncomputable abbrev zAs (env : Env) : List (Pos × Str):=[(⟨214,4,220,27⟩,qualnameIn env (ofString "_law_tell") (ofString "_law_tell"))]
theorem WG (env : Env) : xG (zAs env) = true:=by
 simp [xG,zAs]
theorem WD (H : Ky B mg mb mN C N) {f : Addr} {fd : FuncData} (HF : zw B Jo f fd) {P : Addr} (hcd : ∃ c,fd.code = .ref c ∧ CodeHd B c P) (hb : ∀ s a b c,BindsTo s fd ⟨[a,b,c],[]⟩ [(ofString "page",a),(ofString "names",b),(ofString "wants",c)])
   {nm wt : Nat → Str} (W : Zv nm wt) (HW : Yk nm) {page : List (Nat × Nat)} (hpl : page.length ≤ 100) (hp16 : ∀ q ∈ page,q.1 < 16) (hs : (page.map Prod.fst).Pairwise (· ≤ ·))
   {M₁ : Addr → Prop} {vp vn vw : Value} {Q E : Value → Shared → Prop} (R : Rm A 5) (X : zS B s.heap) (hold : ∀ a,M₁ a → ∃ o,s.heap.get? a = some o) (hP : M₁ P) (hPB : B.get? P = none)
   (rp : Rp prog w s.heap M₁ vp (.list (page.map zQ))) (rn : Rp prog w s.heap M₁ vn (yB nm)) (rw' : Rp prog w s.heap M₁ vw (yB wt)) (hcP : zd prog w s.heap M₁ P (.obs P (tabObj #[]) []))
   (hQ : ∀ t s' v1 Lr Ll Ld Lh bk,∀ c : Array Value × List (Addr × Obj),Xj [P] s s' → s.heap.get? Lh = none → s.heap.get? Ld = none → Ld ≠ Lh → wp prog w bk C Lh → K9 s'.heap t [v1,.ref Lr,.ref Ll,.ref Ld] →
     Rp prog w s'.heap (fun b => M₁ b ∨ b ∈ [Ld,Lh]) v1 bk → Rp prog w s'.heap (fun b => M₁ b ∨ b ∈ [Ld,Lh]) (.ref Lr) (.list ((yS (page.map Prod.fst)).rules.map zQ)) → Rp prog w s'.heap (fun b => M₁ b ∨ b ∈ [Ld,Lh]) (.ref Ll) (.list ((yS (page.map Prod.fst)).log.map (jI nm))) →
     zd prog w s'.heap (fun b => M₁ b ∨ b ∈ [Ld,Lh]) Ld (zu (zq nm (yS (page.map Prod.fst)).tab)) → zd prog w s'.heap (fun b => M₁ b ∨ b ∈ [Ld,Lh]) Lh (zu (zq nm (yS (page.map Prod.fst)).tab)) → zd prog w s'.heap (fun b => M₁ b ∨ b ∈ [Ld,Lh]) P (.obs P (tabObj c.1) c.2) →
     (yS (page.map Prod.fst)).log.length ≤ 80 → (yS (page.map Prod.fst)).rules.length ≤ 80 → (yS (page.map Prod.fst)).tab.length ≤ 80 → Q (.ref t) s') :
   wpAny (model prog w) A (PySem.call (.ref f) [vp,vn,vw]) Q E s:=by
 refine wo (args:=⟨[vp,vn,vw],[]⟩) (M₁:=M₁) H.hdr.G HF (hb s vp vn vw) (by simp only [map_cons,map_nil]; decide) (by k_extra "kd") R X hold (fun a => a = P) (fun a z => by rw [z]; exact ⟨hP,hPB⟩) [(ofString "page",.dat (.list (page.map zQ))),(ofString "names",.dat (yB nm)),(ofString "wants",.dat (yB wt))] ?_ [(P,.obs P (tabObj #[]) [])] (fun b x m => ?_) (by simp) ?_
 · refine all_cons ?_ (all_cons ?_ (all_cons ?_ all_nil))
   · exact ⟨vp,.head _,rp⟩
   · exact ⟨vn,yY,rn⟩
   · exact ⟨vw,wM,rw'⟩
 · cases mem_singleton.mp m
   exact hcP
 · intro env Own M s₁ hL R' hO hMM S
   obtain ⟨L,rfl⟩:=hL
   have R0 : Rm (A.deeper (zW fd L f)) 0:=R'.le (zero_le _)
   have G:=H.hdr.G
   have T : Tb B mg (zW fd L f) P (zAs (zW fd L f)):=⟨⟨mb,G⟩,H.bm,hcd,WG _⟩
   have hOP:=hO P rfl
   have hmore:=S.more
   show wpAny _ _ (execs (_ :: _ :: _ :: _ :: []) _) _ _ _
   refine' Ka (pre:=[]) (post:=[]) T S hOP (z6.nil _) ?d2 rfl rfl rfl rfl ?d3 ?d7 ?d4 ?d5 ?d6
   case d2 => exact .head _
   case d3 | d4 | d6 => k_extra "kd"
   case d7 => exact ⟨ofString "page",by decide +kernel⟩
   case d5 =>
     clear S
     intro fa fo fdA c' P' oc cl ps' os' s' hfd F hco hT h1 h2 hP' hhd S
     have HFt : Z3 (zW fd L f) fa fo c' P' oc:=⟨⟨fdA,cl,hfd,F,h1,h2⟩,hco,hhd⟩
     clear F hfd h1 h2 hco hhd
     show wpAny _ _ (execs (_ :: _ :: _ :: []) _) _ _ _
     refine' JC (B:=B) (s₀:=s) (Own₀:=fun a => a = P) (M₀:=M₁) (names:=we) (ρ:=[(ofString "_law_tell",.dat (.obs fa fo [(c',oc)])),(ofString "page",.dat (.list (page.map zQ))),(ofString "names",.dat (yB nm)),(ofString "wants",.dat (yB wt))]) (els:=[.new (.list []),.new (.list []),.new (.list [])]) R0 [(ofString "table",_),(ofString "rules",_),(ofString "log",_),(ofString "laid",_)] rfl rfl ?tx (by decide) (by k_extra "kd") rfl (by decide) (ZD _ (by rfl)) ?tk
     case tx =>
      refine' Wq.cons (d:=.new (.list [])) ?e1 (Wq.cons (d:=.new (.list [])) ?e2 (Wq.cons (d:=.new (.list [])) ?e3 .nil (fun _ => rfl)) (fun _ => rfl)) (fun _ => rfl)
      case e1 | e2 | e3 => intro h M μ hE; k_extra "z"
     case tk =>
      refine Q8 (rs:=[]) S.e H.hdr.cls (Ev.glob G S.e (by k_extra "kd") (.inl H.hd) (by decide)) .nil fun vs s₂ k₂ rs => ?_
      cases rs
      have S₂:=S.step k₂
      refine Vt H.hdr (M₁:=fun b => M b ∨ b = P') (fun vs => Rm.typecall (R'.le (by decide))) S₂.e.base S₂.e.old fun x bk Lh s₃ k₃ hn hc hI rb => ?_
      · have S₃:=(S₂.mut k₃ hn hc).sub (ρ':=[(ofString "_law_tell",.dat (.obs fa fo [(c',oc)])),(ofString "page",.dat (.list (page.map zQ))),(ofString "names",.dat (yB nm)),(ofString "wants",.dat (yB wt))]) (by k_extra "sub")
        refine ⟨_,_,_,.dat bk,S₃,rb, ?_⟩
        clear S S₂ S₃ hc rb k₂ k₃
        intro Lr hLr Ll hLl Ld hLd s' S
        k_extra "flat"
        have S:=S.sub (ρ':=Ke bk (.obs fa fo [(c',oc)]) Lr Ll Ld page nm wt) (by k_extra "sub")
        refine zAz H HFt W HW hpl hp16 hs (R'.le (by decide)) hI (t₁:=(ps',os')) (t₂:=(#[],[])) (z6.nil _) (.inr rfl) (.inl (.inr rfl)) (.inl (.inl (.inr rfl))) (.inl (.inl (.inl (.inr rfl)))) (.inl (.inl (.inl (.inl (.inr rfl))))) S fun t₂ s' l1 l2 l3 S' => ?_
        clear S
        show wpAny _ _ (execs (_ :: []) _) _ _ _
        refine wpAny_execs_cons (wpAny_Return_some ?_)
        refine Tuple_ (vi (rs:=[.dat bk,.adr Lr,.adr Ll,.adr Ld]) (.cons (r:=.dat bk) ?v0 (.cons (Ev.var S'.e ?v1 ?w1) (.cons (Ev.var S'.e ?v2 ?w2) (.cons (Ev.var S'.e ?v3 ?w3) .nil fun _ => rfl) fun _ => rfl) fun _ => rfl) fun _ => rfl) _ _ _ (zS.refl _) fun vs s₂ k₂ rs => ?_)
        case v0 => k_extra "z"
        case v1 | v2 | v3 => k_extra "mem"
        case w1 | w2 | w3 => k_extra "kd"
        refine zP.use4 rs fun u0 u1 u2 u3 r0 r1 r2 r3 => ?_
        cases r1; cases r2; cases r3
        have S₂:=S'.step k₂
        have hmo : ∀ b,(M₁ b ∨ b ∈ [Ld,Lh]) → (((((M b ∨ b = P') ∨ b = Lh) ∨ b = Lr) ∨ b = Ll) ∨ b = Ld):=fun b z => by
         rcases z with z | z
         · exact S₂.more b z
         · rcases mem_cons.mp z with q | z
           · exact .inr q
           · exact .inl (.inl (.inl (.inr (mem_singleton.mp z))))
        have n1 : Ld ≠ Lh:=S₂.ne_of 0 3 rfl rfl (by decide)
        have n2 : Ld ≠ P:=S₂.ne_of 0 5 rfl rfl (by decide)
        have n3 : Lh ≠ P:=S₂.ne_of 3 5 rfl rfl (by decide)
        have n4 : Lr ≠ Ld:=(S₂.ne_of 0 2 rfl rfl (by decide)).symm
        have n5 : Lr ≠ Lh:=S₂.ne_of 2 3 rfl rfl (by decide)
        have n6 : Ll ≠ Ld:=(S₂.ne_of 0 1 rfl rfl (by decide)).symm
        have n7 : Ll ≠ Lh:=S₂.ne_of 1 3 rfl rfl (by decide)
        have off : ∀ {a : Addr},¬ M₁ a → a ≠ Ld → a ≠ Lh → ¬ (M₁ a ∨ a ∈ [Ld,Lh]):=fun h1 h2 h3 z => z.elim h1 fun z => by
         rcases mem_cons.mp z with q | z
         · exact h2 q
         · exact h3 (mem_singleton.mp z)
        have S₃:=S₂.step (zM s₂ { cls:=.type "tuple",data:=.seq #[u0,.ref Lr,.ref Ll,.ref Ld] 0 } s₂.toks)
        have dn : ∀ {a : Addr} {d : D},zd prog w (s₂.heap.push { cls:=.type "tuple",data:=.seq #[u0,.ref Lr,.ref Ll,.ref Ld] 0 }) _ a d → zd prog w (s₂.heap.push { cls:=.type "tuple",data:=.seq #[u0,.ref Lr,.ref Ll,.ref Ld] 0 }) (fun b => M₁ b ∨ b ∈ [Ld,Lh]) a d:=fun c => c.to (fun _ e => e) fun b o m e => ⟨e,fun z => m (hmo b z)⟩
        refine wpAny_newObj_type (hQ s₂.heap.objs.size _ u0 Lr Ll Ld Lh bk (ps',os') S₃.eff ((S₃.fresh Lh (.inl (.inl (.inl (.inr rfl))))).resolve_left n3) ((S₃.fresh Ld (.inr rfl)).resolve_left n2) n1 hI ⟨0,get?_push_size _ rfl⟩ ((Rp.ext (fun _ _ e => get?_push_of_some _ e) r0).less hmo)
         ((S₃.e.mem Lr _ wM).rp_list hmo (off (fun z => hLr (.inl (.inl (hmore _ z)))) n4 n5)) ((S₃.e.mem Ll _ yY).rp_list hmo (off (fun z => hLl (.inl (.inl (.inl (hmore _ z))))) n6 n7)) (dn (S₃.e.mem Ld _ kR)) (dn (S₃.e.mem Lh _ qE)) (dn (S₃.e.mem P _ zA0)) l1 l2 l3) (by show (4 : Nat) ≤ sizeLine; rw [sizeLine_eq]; decide)
noncomputable abbrev zK:=(zR zv).names
structure yt (prog : Program) (w : World) (B : Heap) (mg mb : Str → Option Value) (C N : Addr) (mN : Str → Option Value) : Prop where
 le : Ky B mg mb mN C N
 sum : mg "sum" = none ∧ mb "sum" = some (.builtin "sum")
 bytes : mg "bytes" = none ∧ mb "bytes" = some (.type "bytes")
 sorted : mg "sorted" = none ∧ mb "sorted" = some (.builtin "sorted")
 verr : mg "ValueError" = none ∧ mb "ValueError" = some (.type "ValueError")
 iter : mg "iter" = none ∧ mb "iter" = some (.builtin "iter")
 next : mg "next" = none ∧ mb "next" = some (.builtin "next")
 stop : mg "StopIteration" = none ∧ mb "StopIteration" = some (.type "StopIteration")
 hex : mg "hex" = none ∧ mb "hex" = some (.builtin "hex")
 set : mg "set" = none ∧ mb "set" = some (.type "set")
 zip : mg "zip" = none ∧ mb "zip" = some (.type "zip")
 chr : mg "chr" = none ∧ mb "chr" = some (.builtin "chr")
 flagT : ∃ fa,mg "COMPILER_FLAG_NAMES" = some (.ref fa) ∧ TabAt (PySem.intKind prog w) PyData.int B fa VK
 oct : ∃ f fd,zl B mg "_law_octets" zBM f fd ∧ ∀ v s,BindsTo s fd ⟨[v],[]⟩ [(ofString "number",v)]
 flags : ∃ f fd,zl B mg "pretty_flags" flS f fd ∧ ∀ v s,BindsTo s fd ⟨[v],[]⟩ [(ofString "flags",v)]
 pv : ∃ f fd,zl B mg "_parse_varint" pvS f fd ∧ ∀ v s,BindsTo s fd ⟨[v],[]⟩ [(ofString "iterator",v)]
 read : ∃ f fd,zl B mg "_law_read" rdS f fd ∧ ∀ v s,BindsTo s fd ⟨[v],[]⟩ [(ofString "octets",v)]
 shut : ∃ f fd,zl B mg "_law_shut" shS f fd ∧ ∀ v s,BindsTo s fd ⟨[v],[]⟩ [(ofString "rows",v)]
theorem St.xout (S : St prog w B s₀ Own₀ M₀ names env Own M ρ μ s) (hL : env.frame = some env.locals) {h' : Heap} {tk : Nat} (X : YD [env] s.heap h') : St prog w B s₀ Own₀ M₀ names env Own M ρ μ { s with heap:=h',toks:=tk }:=by
 have efr : xA [env] = [env.locals]:=by simp [xA,hL]
 refine S.slots (fs:=[env.locals]) (wr:=[]) (fun a ha => ?_) (fun a ha => by cases ha) (fun p hp => ⟨hp,by simp⟩) S.nodup (fun a o n _ q => X.1 a o (by rw [efr]; exact n) q) (fun a o _ q hd => X.2 a o q hd) (fun a ha o q vs hd => ?_)
 · cases mem_singleton.mp ha
   exact ⟨S.fr _ (.inl rfl),fun d hm => S.sep _ d hm (.inl rfl)⟩
 · cases mem_singleton.mp ha
   obtain ⟨m,o',es,ep,e,hd',_⟩:=S.f.ns
   rw [e] at q; cases q
   rw [hd'] at hd; cases hd
theorem W6 (H : yt prog w B mg mb C N mN) (R : Rm A 3) (S : St prog w B s₀ Own₀ M₀ names env Own M ρ μ s) (hL : env.frame = some env.locals) (hfr : A.frames = some [env]) {fp pos : Pos} {e : Expr} {b : Array UInt8} (hsmall : b.size ≤ 1000) (hgi : names.lookup (ofString "_law_read") = some .globalImplicit)
   (he : Ev prog w A s.heap e env (PS prog w M (.bytes b))) (hst : ∀ rest,starEach (e :: rest) env = (false,eval e env) :: starEach rest env) {Q : Value → Shared → Prop}
   (hQ : ∀ v s',St prog w B s₀ Own₀ M₀ names env Own M ρ μ s' → Rp prog w s'.heap M v (.list ((wy b).map .int)) → Q v s') :
   wpAny (model prog w) A (eval (.Call (.Name (ofString "_law_read") fp) [e] [] pos) env) Q E s:=by
 obtain ⟨f,fd,HR,hb⟩:=H.read
 obtain ⟨g,gd,HP,hbp⟩:=H.pv
 have G:=H.le.hdr.G
 refine wh (f:=.ref f) (rs:=[.dat (.bytes b)]) S.e (Ev.glob G S.e hgi (.inl HR.g) (by decide)) HR.keepy (.cons (r:=.dat (.bytes b)) he .nil hst) fun vs s₁ k₁ rs => ?_
 refine zP.use1 rs fun v r => ?_
 have S₁:=S.step k₁
 have efr : xA [env] = [env.locals]:=by simp [xA,hL]
 refine Vc (l:=[env]) G H.next H.iter H.stop HP hbp HR hb R hsmall S₁.e.base S₁.e.old r hfr (fun en he => ?_) (fun a ha => ?_) fun v s' hs' X rv => ?_
 · cases mem_singleton.mp he
   refine ⟨by rw [S.e.n.fn]; decide,env.locals, ?_⟩
   obtain ⟨m,o,es,ep,e,hd,_⟩:=S₁.f.ns
   exact ⟨o,hL,e,fun vs z => by rw [hd] at z; cases z⟩
 · rw [efr] at ha
   cases mem_singleton.mp ha
   exact S₁.base _ (S₁.fr _ (.inl rfl))
 · obtain ⟨h',tk,rfl⟩:=hs'
   exact hQ v _ (S₁.xout hL X) rv
noncomputable def yV (sc : List Int) : List Int:=(sc.take 60).map fun n => n.fmod 1000000
noncomputable def q9 : List Int:=[26,8195,353,8,4103,135]
noncomputable def z0 (sc : List Int) : List Int:=(vJ 0 6 1).map fun k => q9.getD k.toNat 0 + (zf (yV sc) (some k) none (some 6)).sum
noncomputable def xW (sums : List Int) : List Int:=sums.flatMap ZM
noncomputable def xM : List Str:=["OPTIMIZED","NEWLOCALS","VARARGS","VARKEYWORDS","NESTED","GENERATOR","NOFREE","COROUTINE","ITERABLE_COROUTINE","ASYNC_GENERATOR","0x400","0x800","0x1000"].map ofString
theorem yz {α β : Type} (f : α → β) (xs : List α) (lo hi st : Option Int) : zf (xs.map f) lo hi st = (zf xs lo hi st).map f:=by
 unfold zf
 rw [length_map,List.map_filterMap]
 refine jA fun i _ => ?_
 rw [getElem?_map]
theorem Kg {names : zE} (S : En prog w B names env h M ρ μ) {iter : Expr} {d : D} (he : Ev prog w A h iter env (PS prog w M d)) (s : Shared) (k : zS h s.heap) (E : Value → Shared → Prop) : wpAny (model prog w) A (eval iter env) (fun xv s₁ => ∃ c₀ : Unit,(fun s₁ (_ : Unit) => Keeps s s₁) s₁ c₀ ∧ En prog w B names env s₁.heap M ρ ((fun _ : Unit => μ) c₀) ∧ Rp prog w s₁.heap M xv d) E s :=
 he s E _ k fun v s' ks r => ⟨(),ks,S.ext (k.trans (ke ks)),r⟩
theorem KZ {vs : List Value} {xs : List Int} (hi : IntsAre vs xs) : zH prog w h M vs (xs.map .int):=by
 induction hi with
 | nil => exact .nil
 | cons n t _ ih => exact .cons (.int n t) ih
theorem Ev.sliceScript {sa : Addr} {vs : List Value} {xs : List Int} (hB : B.IsList sa vs.toArray) (hi : IntsAre vs xs) (S : En prog w B names env h M ρ μ) {value : Expr} {lower upper : Option Expr} {p pos : Pos} {lo hi' : Option Int}
   (hv : Ev prog w A h value env (fun _ v => v = .ref sa)) (hl : zY prog w A h M lower env lo) (hu : zY prog w A h M upper env hi') (hsz : xs.length ≤ sizeLine) :
   Ev prog w A h (.Subscript value (.Slice lower upper none p) pos) env (PS prog w M (.list ((zf xs lo hi' none).map .int))):=by
 intro s E Q k hQ
 refine Subscript_ (hv s E _ k fun o s₁ k₁ ro => wpAny_Slice ?_)
 subst ro
 refine hl s₁ E _ (k.trans (ke k₁)) fun vl s₂ k₂ pl => ?_
 refine hu s₂ E _ (k.trans ((ke k₁).trans (ke k₂))) fun vu s₃ k₃ pu => ?_
 refine zY.none (M:=M) s₃ E _ (k.trans ((ke k₁).trans ((ke k₂).trans (ke k₃)))) fun vst s₄ k₄ pst => ?_
 have kk:=zA k₁ (zA k₂ (zA k₃ k₄))
 have kB : zS B (s₄.heap.push { cls:=.type "slice",data:=.fields #[vl,vu,vst] }):=fun a o e => get?_push_of_some _ (ke kk _ _ (k _ _ (S.base _ _ e)))
 have pl2 : (s₄.heap.push { cls:=.type "slice",data:=.fields #[vl,vu,vst] }).IsList sa vs.toArray:=by
   obtain ⟨o,e,r⟩:=hB
   exact ⟨o,kB _ _ e,r⟩
 obtain ⟨ops,hso⟩:=zx (.Slice lower upper none p) (.ref sa) (.ref s₄.heap.objs.size)
 have hlen : vs.length = xs.length:=hi.length
 have hr : zH prog w s₄.heap M vs (xs.map .int):=KZ hi
 refine tail_any (s:={ s₄ with heap:=s₄.heap.push { cls:=.type "slice",data:=.fields #[vl,vu,vst] } }) pl2.typeIs slot_list_getitem.lookup
   (wpAny_getItem_list_slice pl2 (Heap.IsSliceOf.new ..) pl pu pst (by decide) (hQ _ _ (zA kk (zA (zM s₄ { cls:=.type "slice",data:=.fields #[vl,vu,vst] } s₄.toks) (zM _ _ s₄.toks))) ?_) (by rw [size_toArray,hlen]; exact hsz)) hso
 have e : slicePick vs.toArray lo hi' none = (zf vs lo hi' none).toArray:=by
   unfold slicePick zf
   simp
 rw [e]
 refine wA (h:=s₄.heap.push { cls:=.type "slice",data:=.fields #[vl,vu,vst] }) ?_ 0 (fun m => ?_)
 · rw [← yz]
   unfold zf
   rw [length_map,← hlen]
   exact (hr.pick _).ext fun _ _ e => get?_push_of_some _ e
 · obtain ⟨o,e⟩:=S.old _ m
   have:=ke kk _ _ (k _ _ e)
   exact absurd (lt_size (get?_push_of_some { cls:=.type "slice",data:=.fields #[vl,vu,vst] } this)) (lt_irrefl _)
theorem zBA (H : yt prog w B mg mb C N mN) {sa : Addr} {vs : List Value} {sc : List Int} (hB : B.IsList sa vs.toArray) (hi : IntsAre vs sc) (hsc : sc.length ≤ 63) (R : Rm A 3) (hso : ∀ t ∈ z0 sc,0 ≤ t) (hoc : ∀ o ∈ xW (z0 sc),0 ≤ o ∧ o < 256) (hol : (xW (z0 sc)).length ≤ 1000)
  (S : St prog w B s₀ Own₀ M₀ zK env Own M [(ofString "script",.val (.ref sa))] μ s)
  (hQ : ∀ s',St prog w B s₀ Own₀ M₀ zK env Own M [(ofString "octets",.dat (.bytes (byteArr (xW (z0 sc))))),(ofString "sums",.dat (.list ((z0 sc).map .int)))] μ s' → wpAny (model prog w) A (execs ((zB zv).drop 3) env) Q E s') :
  wpAny (model prog w) A (execs (zB zv) env) Q E s:=by
 have R0 : Rm A 0:=R.le (zero_le _)
 have G:=H.le.hdr.G
 have hr:=H.le.range
 have hsl : (z0 sc).length = 6:=by unfold z0; rw [length_map,yM]; rfl
 show wpAny _ _ (execs (_ :: _ :: _ :: _) env) _ _ _
 refine' xw S ?a1 R0 ?a2 (dsrc:=.list ((sc.take 60).map .int)) ?a3 (sc.take 60) .int (zj.list _) (fun n => .int (n.fmod 1000000)) ?a4 ?a5 ?a6 ?a7 ?a8
 case a1 | a2 | a4 => k_extra "kd"
 case a5 => rw [length_take,sizeLine_eq]; k_extra "o"
 case a6 => k_extra "fs"
 case a3 =>
  refine' Ev.rd (Ev.cast (Ev.sliceScript (lo:=none) (hi':=some ((60 : Nat) : Int)) hB hi S.e ?qv zY.none ?qu (by rw [sizeLine_eq]; k_extra "o")) ?qq)
  case qv => exact Ev.var (r:=.val (.ref sa)) S.e (.head _) (by decide)
  case qu => k_extra "z"
  case qq => rw [XX]
 case a7 =>
  intro z hz env' h' M' kx hE
  k_extra "z"
 case a8 =>
  k_extra "next"
  have e1 : (sc.take 60).map (fun n => D.int (n.fmod 1000000)) = (yV sc).map .int:=by unfold yV; rw [map_map]; rfl
  rw [e1] at S
  have S2:=S.sub (ρ':=[(ofString "taken",.dat (.list ((yV sc).map .int)))]) (by k_extra "sub")
  clear S
  have S:=S2
  clear S2
  have htl : (yV sc).length ≤ 60:=by unfold yV; rw [length_map,length_take]; k_extra "o"
  refine' xw S ?b1 R0 ?b2 (dsrc:=.rng 0 6 1) ?b3 (vJ 0 6 1) .int (zj.rng rfl) (fun k => .int (q9.getD k.toNat 0 + (zf (yV sc) (some k) none (some 6)).sum)) ?b4 ?b5 ?b6 ?b7 ?b8
  case b1 | b2 => k_extra "kd"
  case b3 => k_extra "z"
  case b4 => k_extra "kd"
  case b5 => rw [yM,sizeLine_eq]; decide
  case b6 => k_extra "fs"
  case b7 =>
   intro z hz env' h' M' kx hE
   obtain ⟨i,hi⟩:=List.getElem?_of_mem hz
   have hz':=Xi hi
   have hi5 : i < 6:=by
    have:=(List.getElem?_eq_some_iff.mp hi).1
    rw [yM] at this
    exact this
   subst hz'
   refine' Ev.bin (da:=.int (q9.getD (i : Int).toNat 0)) (db:=.int ((zf (yV sc) (some (i : Int)) none (some 6)).sum)) hE ?ql ?qr (yC.add _ _)
   case ql =>
    refine' Ev.rd (Ev.item (xs:=q9.map .int) (i:=(i : Int)) ?l1 ?l2 ?l3 ?l4 ?l5)
    case l1 => show Ev _ _ _ _ _ _ (PR _ _ _ (.list [.int 26,.int 8195,.int 353,.int 8,.int 4103,.int 135])); k_extra "z"
    case l2 => k_extra "z"
    case l3 | l4 => k_extra "o"
    case l5 =>
     show (q9.map D.int)[(i : Int).toNat]? = _
     have hb : q9.length = 6:=rfl
     rw [toNat_natCast,getElem?_map,getElem?_eq_getElem (by k_extra "o"),getD_eq_getElem?_getD,getElem?_eq_getElem (by k_extra "o")]
     rfl
   case qr =>
    refine' Ev.rd (Ev.cast (Ev.call hE (R.le (by decide : 1 ≤ 3)) ?zfs1 ?zKs1 (yy.cons ?zxs1 yy.nil (fun _ => rfl)) (zG.sum (k:=0) ((zf (yV sc) (some (i : Int)) none (some 6)).map .int) ?zys1)) ?zqs1)
    case zfs1 => exact Ev.glob G hE (by k_extra "kd") (.inr H.sum) (by decide)
    case zKs1 => k_extra "z"
    case zys1 => simp [all_eq_true,Ws]
    case zqs1 =>
     rw [map_map]
     have : (ZK ∘ D.int) = _root_.id:=by funext x; rfl
     rw [this,List.map_id]
    case zxs1 =>
     refine' Ev.rd (Ev.cast (Ev.slice (xs:=(yV sc).map .int) (lo:=some (i : Int)) (hi:=none) (st:=some 6) hE ?v1 ?v2 zY.none ?v4 (by decide) ?v3) ?v5)
     case v1 | v2 | v4 => k_extra "z"
     case v3 => rw [length_map,sizeLine_eq]; k_extra "o"
     case v5 => rw [yz]
  case b8 =>
   k_extra "next"
   have e2 : (vJ 0 6 1).map (fun k => D.int (q9.getD k.toNat 0 + (zf (yV sc) (some k) none (some 6)).sum)) = (z0 sc).map .int:=by unfold z0; rw [map_map]; rfl
   rw [e2] at S
   have S2:=S.sub (ρ':=[(ofString "sums",.dat (.list ((z0 sc).map .int)))]) (by k_extra "sub")
   clear S
   have S:=S2
   clear S2
   obtain ⟨of,ofd,HO,hbo⟩:=H.oct
   refine' z7 (d:=.bytes (byteArr (xW (z0 sc)))) S ?c1 ?c2 rfl ?c3
   case c2 => k_extra "kd"
   case c3 => exact fun s' S' => hQ s' (S'.sub (by k_extra "sub"))
   case c1 =>
    refine' Ev.call S.e R0 ?ff ?KK (yy.cons ?xx yy.nil (fun _ => rfl)) (zG.bytes (xW (z0 sc)) hoc (by rw [sizeLine_eq]; k_extra "o"))
    case ff => exact Ev.glob G S.e (by k_extra "kd") (.inr H.bytes) (by decide)
    case KK => exact .inl fun _ e => by cases e
    case xx =>
     refine' Ev.rd (Ev.cast (Ev.ofCompTo ⟨_,_,rfl⟩ S.e.old fun s₂ k₂ => Kq (B:=B) (names:=zK) (ρ:=[(ofString "sums",.dat (.list ((z0 sc).map .int)))]) (μ:=fun _ => μ) (dsrc:=.list ((z0 sc).map .int)) S.e.n R0 ?d1 (z0 sc) .int (zj.list _) (fun t => [(ofString "total",.dat (.int t))]) (fun t => .list ((ZM t).map .int)) ZM .int (fun o => [(ofString "octet",.dat (.int o))]) (fun _ o => .int o)
      ?d2 ?d3 ?d4 ?d5 ?d6 ?d7 ?d8 ?d9 ?d10 ?d11 (Kg S.e (Ev.name S.e (.head _) (by decide)) s₂ k₂) ?d12 ?d13) ?qq)
     case d1 => k_extra "kd"
     case d2 => exact fun y _ => wu.name (by k_extra "kd")
     case d3 => exact fun y _ x r hm => by cases mem_singleton.mp hm; decide +kernel
     case d4 => k_extra "fs"
     case d5 => exact fun _ _ => zj.list _
     case d6 => exact fun y _ z _ => wu.name (by k_extra "kd")
     case d7 => exact fun y _ z _ x r hm => by cases mem_singleton.mp hm; decide +kernel
     case d8 =>
      intro y _ z _ x r hm r' hm'
      cases mem_singleton.mp hm
      have:=mem_singleton.mp hm'
      simp only [Prod.mk.injEq] at this
      exact absurd this.1 (by decide)
     case d9 => exact fun _ _ => rfl
     case d10 =>
      have : ((z0 sc).flatMap fun y => (ZM y).map fun o => D.int o) = (xW (z0 sc)).map .int:=by unfold xW; rw [List.map_flatMap]
      rw [this,length_map,sizeLine_eq]; k_extra "o"
     case d11 => exact fun _ _ a d m => ⟨d,m⟩
     case qq => unfold xW; rw [List.map_flatMap]
     case d12 =>
      intro y hy c env' h' M' hE
      refine' Ev.call hE (R.le (by decide : 1 ≤ 3)) ?f12 ?K12 ?x12 (zG.of_def G HO [ofString "number"] (fun vs hl s => ?_) rfl (by simp) (by k_extra "kd") rfl (JJ G hr y (hso y hy)))
      case f12 => k_extra "z"
      case K12 => exact HO.keepy
      case x12 => k_extra "z"
      obtain ⟨a,rfl⟩:=Qr hl
      exact hbo a s
     case d13 =>
      intro y hy z hz c env' h' M' hE
      k_extra "z"
noncomputable def ZA (n k : Nat) : Bool:=Builtin.bitAnd ((n : Int).fdiv (2 ^ k)) 1 != 0
noncomputable def eS : Str:=ofString ""
noncomputable def zo (p : Nat) : List Str:=(xM.drop p).take 4
noncomputable abbrev vS (l : List Int) : Str × RV:=(ofString "sums",.dat (.list (l.map .int)))
noncomputable abbrev vR (l : List Int) : Str × RV:=(ofString "read",.dat (.list (l.map .int)))
noncomputable abbrev vO (b : Array UInt8) : Str × RV:=(ofString "octets",.dat (.bytes b))
noncomputable abbrev vP (p : Nat) : Str × RV:=(ofString "place",.dat (.int p))
noncomputable abbrev vW (p : Nat) : Str × RV:=(ofString "words",.dat (.list ((zo p).map .str)))
noncomputable abbrev vD (l : List Nat) : Str × RV:=(ofString "drawn",.dat (.list (l.map fun d : Nat => .int d)))
noncomputable def Kt : Str:=ofString "0x0"
noncomputable def v8 : Str:=ofString "..."
noncomputable def Vv (p n : Nat) : List Str:=((List.range 4).filter (ZA n)).map fun k => (zo p).getD k eS
noncomputable def WB (p n : Nat) : List Str:=if (Vv p n).isEmpty then [Kt] else Vv p n
noncomputable def zU (p n : Nat) : Str:=wv wz (WB p n)
noncomputable def ye (p n : Nat) : Str:=zn ++ zU p n ++ xX
noncomputable def Kv (p : Nat) : Bool:=decide (zf xM (some (p : Int)) (some ((p : Int) + 4)) none = zo p) && decide ((zo p).length = 4) && (List.range 16).all fun n =>
 decide (vQ 32 0 ((n : Int) * 2 ^ p) [] = some (WB p n)) && yG wz (WB p n) && decide ((zU p n).length ≤ 100) && PyData.strOk (zU p n)
theorem Vq : ∀ p : Fin 10,Kv p = true:=by decide +kernel
structure xV (p : Nat) : Prop where
 lt : p < 10
 words : zf xM (some (p : Int)) (some ((p : Int) + 4)) none = zo p
 len : (zo p).length = 4
 fl : ∀ n : Nat,n < 16 → vQ 32 0 ((n : Int) * 2 ^ p) [] = some (WB p n)
 jf : ∀ n : Nat,n < 16 → yG wz (WB p n) = true
 short : ∀ n : Nat,n < 16 → (zU p n).length ≤ 100
 ok : ∀ n : Nat,n < 16 → PyData.strOk (zU p n) = true
theorem zBf {p : Nat} (hp : p < 10) : xV p:=by
 have h:=Vq ⟨p,hp⟩
 simp only [Kv,and_eq_true,decide_eq_true_eq,all_eq_true,mem_range] at h
 obtain ⟨⟨h1,h2⟩,h3⟩:=h
 exact ⟨hp,h1,h2,fun n hn => (h3 n hn).1.1.1,fun n hn => (h3 n hn).1.1.2,fun n hn => (h3 n hn).1.2,fun n hn => (h3 n hn).2⟩
noncomputable def oN (k d : Nat) : Nat:=d + (if 0 < k then 64 else 0) + (if k % 2 = 0 then 128 else 0)
theorem zAM : ∀ k : Fin 4,∀ d : Fin 64,(decide (oN k d < 256) && decide ((oN k d) &&& 63 = d) && (decide ((oN k d) &&& 64 = 0) == decide (k.val = 0))) = true:=by decide +kernel
noncomputable def QQ (m k : Nat) : Nat:=m / 64 ^ k % 64
theorem vb (m k : Nat) : QQ m k < 64:=Nat.mod_lt _ (by decide)
theorem oF {k d : Nat} (hk : k < 4) (hd : d < 64) : oN k d < 256 ∧ oN k d &&& 63 = d ∧ (oN k d &&& 64 = 0 ↔ k = 0):=by
 have h:=zAM ⟨k,hk⟩ ⟨d,hd⟩
 simp only [and_eq_true,decide_eq_true_eq,beq_iff_eq,decide_eq_decide] at h
 exact ⟨h.1.1,h.1.2,h.2⟩
noncomputable def XU (m k : Nat) : UInt8:=(oN k (QQ m k)).toUInt8
noncomputable def vy (m : Nat) : Nat → List UInt8
 | 0 => [XU m 0]
 | k + 1 => XU m (k + 1) :: vy m k
theorem q0 {m k : Nat} (hk : k < 4) : (XU m k).toNat = oN k (QQ m k):=by
 unfold XU
 rw [UInt8.toNat_ofNat']
 exact Nat.mod_eq_of_lt (oF hk (vb m k)).1
theorem wY (m k : Nat) : (vy m k).length = k + 1:=by
 induction k with
 | zero => rfl
 | succ k ih => rw [vy,length_cons,ih]
theorem j0 {b : Array UInt8} {i : Nat} {x : UInt8} {r : List UInt8} (h : b.toList.drop i = x :: r) : b[i]? = some x ∧ b.toList.drop (i + 1) = r:=by
 constructor
 · rw [← getElem?_toList]
   have:=congrArg List.head? h
   rw [head?_drop] at this
   exact this
 · rw [← List.tail_drop,h]; rfl
theorem zAC {v d : Nat} (hd : d < 64) : Builtin.bitOr ((v : Int) * 2 ^ (6 : Int).toNat) (d : Int) = ((v * 64 + d : Nat) : Int):=by
 rw [bitOr_and]
 have e : (v : Int) * 2 ^ (6 : Int).toNat = ((2 ^ 6 * v : Nat) : Int):=by
  rw [Int.natCast_mul,Int.mul_comm]; rfl
 rw [e,xI]
 have h:=Nat.two_pow_add_eq_or_of_lt (i:=6) (b:=d) hd v
 have : 2 ^ 6 * v &&& d = 0:=by
  apply Nat.eq_of_testBit_eq
  intro j
  rw [Nat.testBit_and,Nat.zero_testBit,Nat.testBit_two_pow_mul]
  by_cases hj : 6 ≤ j
  · rw [Nat.testBit_lt_two_pow (lt_of_lt_of_le hd (show 2 ^ 6 ≤ 2 ^ j from Nat.pow_le_pow_right (by decide) hj) : d < 2 ^ j),Bool.and_false]
  · rw [decide_eq_false hj]; rfl
 rw [this]
 have : (2 ^ 6 : Nat) = 64:=rfl
 rw [this]
 omega
theorem Wd (m k : Nat) : m % 64 ^ (k + 1) = QQ m k * 64 ^ k + m % 64 ^ k:=by
 rw [Nat.pow_succ,Nat.mod_mul,QQ,Nat.mul_comm,add_comm]
theorem VF {b : Array UInt8} {m : Nat} {r : List UInt8} : ∀ (k n v i : Nat),k < 4 → k < n → b.toList.drop i = (vy m k).drop 1 ++ r → wa b n (oN k (QQ m k) : Nat) v i = some (((v * 64 ^ k + m % 64 ^ k : Nat) : Int),i + k)
 | 0,n + 1,v,i,_,_,_ => by
  rw [yj,show ((64 : Int)) = ((64 : Nat) : Int) from rfl,xI,((oF (k:=0) (by decide) (vb m 0)).2.2).mpr rfl,if_neg (by decide)]
  simp [Nat.mod_one]
 | k + 1,n + 1,v,i,hk,hn,hd => by
  have hd' : b.toList.drop i = XU m k :: ((vy m k).drop 1 ++ r):=by
    rw [hd]; cases k <;> rfl
  obtain ⟨h1,h2⟩:=j0 hd'
  rw [yj,show ((64 : Int)) = ((64 : Nat) : Int) from rfl,xI,if_pos]
  · rw [h1]
    dsimp only
    rw [q0 (by omega),show ((63 : Int)) = ((63 : Nat) : Int) from rfl,xI,(oF (by omega) (vb m k)).2.1,zAC (vb m k),VF k n _ (i + 1) (by omega) (by omega) h2]
    have e : (v * 64 + QQ m k) * 64 ^ k + m % 64 ^ k = v * 64 ^ (k + 1) + m % 64 ^ (k + 1):=by
     rw [Wd,Nat.pow_succ,Nat.add_mul,Nat.mul_assoc v 64,Nat.mul_comm 64]; exact Nat.add_assoc _ _ _
    rw [e,Nat.add_assoc i,add_comm 1 k]
  · have h:=mt (oF hk (vb m (k + 1))).2.2.mp (by omega)
    simp only [bne_iff_ne,ne_eq]
    exact_mod_cast h
theorem Vf {b : Array UInt8} {m i k : Nat} {r : List UInt8} (hk : k < 4) (hm : m < 64 ^ (k + 1)) (hd : b.toList.drop i = vy m k ++ r) : x0 b i = some ((m : Int),i + (k + 1)):=by
 have hd' : b.toList.drop i = XU m k :: ((vy m k).drop 1 ++ r):=by
  rw [hd]; cases k <;> rfl
 obtain ⟨h1,h2⟩:=j0 hd'
 have hl:=congrArg length hd
 rw [List.length_drop,length_append,wY,length_toList] at hl
 rw [x0,h1]
 dsimp only
 rw [q0 hk,show ((63 : Int)) = ((63 : Nat) : Int) from rfl,xI,(oF hk (vb m k)).2.1,VF k _ _ (i + 1) hk (KV hl) h2,← Wd,Nat.mod_eq_of_lt hm,Nat.add_assoc,add_comm 1 k]
theorem Jf {b : Array UInt8} {m : Nat} : ∀ (k n : Nat) (v : Int) (i : Nat),k + 1 < 4 → b.toList.drop i = (vy m k).dropLast → wa b n (oN (k + 1) (QQ m (k + 1)) : Nat) v i = none
 | _,0,_,_,_,_ => rfl
 | k,n + 1,v,i,hk,hd => by
  rw [yj,show ((64 : Int)) = ((64 : Nat) : Int) from rfl,xI,if_pos]
  · cases k with
    | zero =>
     have : b.toList.drop i = []:=hd
     rw [show b[i]? = none from by rw [← getElem?_toList,← head?_drop,this]; rfl]
    | succ k =>
     have hd' : b.toList.drop i = XU m (k + 1) :: (vy m k).dropLast:=by
      rw [hd,vy,List.dropLast_cons_of_ne_nil]
      intro e; have:=congrArg length e; rw [wY] at this; cases this
     obtain ⟨h1,h2⟩:=j0 hd'
     rw [h1]
     dsimp only
     rw [q0 (by omega)]
     exact Jf k n _ (i + 1) (by omega) h2
  · have h:=mt (oF hk (vb m (k + 1))).2.2.mp (by omega)
    simp only [bne_iff_ne,ne_eq]
    exact_mod_cast h
theorem Qu {b : Array UInt8} {m i k : Nat} (hk : k < 4) (hd : b.toList.drop i = (vy m k).dropLast) : x0 b i = none:=by
 rw [x0]
 cases k with
 | zero =>
  have : b.toList.drop i = []:=hd
  rw [show b[i]? = none from by rw [← getElem?_toList,← head?_drop,this]; rfl]
 | succ k =>
  have hd' : b.toList.drop i = XU m (k + 1) :: (vy m k).dropLast:=by
   rw [hd,vy,List.dropLast_cons_of_ne_nil]
   intro e; have:=congrArg length e; rw [wY] at this; cases this
  obtain ⟨h1,h2⟩:=j0 hd'
  rw [h1]
  dsimp only
  rw [q0 hk]
  exact Jf k _ _ (i + 1) hk h2
noncomputable def kJ (m : Nat) : Nat:=if 262143 < m then 3 else if 4095 < m then 2 else if 63 < m then 1 else 0
noncomputable def wL (m : Nat) : List UInt8:=vy m (kJ m)
theorem jx {m : Nat} (hm : m < 16777216) : kJ m < 4 ∧ m < 64 ^ (kJ m + 1):=by
 unfold kJ
 split
 · exact ⟨by decide,hm⟩
 · split
   · exact ⟨by decide,show m < 262144 by omega⟩
   · split
     · exact ⟨by decide,show m < 4096 by omega⟩
     · exact ⟨by decide,show m < 64 by omega⟩
theorem Q5 {b : Array UInt8} {tl : List UInt8} (htl : ∀ i,b.toList.drop i = tl → x0 b i = none) : ∀ (ms : List Nat) (n i : Nat),(∀ m ∈ ms,m < 16777216) → ms.length < n → b.toList.drop i = ms.flatMap wL ++ tl → jQ b n i = ms.map fun m : Nat => (m : Int)
 | [],n + 1,i,_,_,hd => by rw [jQ,htl i hd]; rfl
 | m :: ms,n + 1,i,hm,hn,hd => by
  obtain ⟨t1,t2⟩:=jx (hm m (.head _))
  have hd' : b.toList.drop i = vy m (kJ m) ++ (ms.flatMap wL ++ tl):=by
   rw [hd,flatMap_cons,List.append_assoc]; rfl
  rw [jQ,Vf t1 t2 hd']
  have h2 : b.toList.drop (i + (kJ m + 1)) = ms.flatMap wL ++ tl:=by
   rw [← List.drop_drop,hd',← wY m (kJ m),List.drop_left]
  dsimp only
  rw [Q5 htl ms n _ (fun x hx => hm x (.tail _ hx)) (by rw [length_cons] at hn; omega) h2]
  rfl
theorem Yh (m : Nat) : 0 < (wL m).length:=by unfold wL; rw [wY]; omega
theorem Yy (ms : List Nat) : ms.length ≤ (ms.flatMap wL).length:=by
 induction ms with
 | nil => exact le_refl _
 | cons m ms ih =>
  rw [flatMap_cons,length_append,length_cons]
  have:=Yh m
  omega
theorem zAe {b : Array UInt8} {ms : List Nat} (hm : ∀ m ∈ ms,m < 16777216) (hb : b.toList = ms.flatMap wL) : wy b = ms.map fun m : Nat => (m : Int):=by
 unfold wy
 refine Q5 (tl:=[]) (fun i h => ?_) ms _ 0 hm ?_ (by rw [drop_zero,hb,append_nil])
 · rw [x0,show b[i]? = none from by rw [← getElem?_toList,← head?_drop,h]; rfl]
 · have h1:=Yy ms
   have h2 : b.size = (ms.flatMap wL).length:=by rw [← hb,length_toList]
   omega
theorem zAQ {b : Array UInt8} {ms : List Nat} {m : Nat} (hm : ∀ m ∈ ms,m < 16777216) (h : m < 16777216) (hb : b.toList = ms.flatMap wL ++ (wL m).dropLast) : wy b = ms.map fun m : Nat => (m : Int):=by
 unfold wy
 refine Q5 (tl:=(wL m).dropLast) (fun i hi => Qu (jx h).1 hi) ms _ 0 hm ?_ (by rw [drop_zero,hb])
 have h1:=Yy ms
 have h2 : b.size = (ms.flatMap wL ++ (wL m).dropLast).length:=by rw [← hb,length_toList]
 rw [length_append] at h2
 omega
theorem XH {m : Nat} (hm : m < 16777216) : (ZM (m : Int)).map (fun n => n.toNat.toUInt8) = wL m ∧ ∀ o ∈ ZM (m : Int),0 ≤ o ∧ o < 256:=by
 have hd : ∀ k : Nat,k < 4 → Builtin.bitAnd ((m : Int).fdiv (2 ^ (6 * (k : Int)).toNat)) 63 + 64 * (if decide (0 < (k : Int)) = true then 1 else 0) + 128 * (if ((k : Int).fmod 2 == 0) = true then 1 else 0) = ((oN k (QQ m k) : Nat) : Int):=by
   intro k hk
   have e1 : (m : Int).fdiv (2 ^ (6 * (k : Int)).toNat) = ((m / 64 ^ k : Nat) : Int):=by
     have : (6 * (k : Int)).toNat = 6 * k:=rfl
     rw [this,Int.pow_mul,Int.fdiv_eq_ediv_of_nonneg _ (Int.pow_nonneg (by decide))]
     rw [show ((2 : Int) ^ 6) = ((64 : Nat) : Int) from rfl,← Int.natCast_pow]; rfl
   have e2 : (m / 64 ^ k) &&& 63 = QQ m k:=Nat.and_two_pow_sub_one_eq_mod (m / 64 ^ k) 6
   rw [e1,show ((63 : Int)) = ((63 : Nat) : Int) from rfl,xI,e2]
   unfold oN
   have h3 : ((k : Int).fmod 2 == 0) = decide (k % 2 = 0):=by
     rw [Bool.eq_iff_iff,beq_iff_eq,decide_eq_true_eq,Int.fmod_eq_emod_of_nonneg _ (by decide)]
     exact Int.ofNat_inj (m:=k % 2) (n:=0)
   have h4 : decide (0 < (k : Int)) = decide (0 < k):=by
     rw [Bool.eq_iff_iff,decide_eq_true_eq,decide_eq_true_eq]; exact Int.natCast_pos
   rw [h3,h4]
   by_cases a : 0 < k <;> by_cases b : k % 2 = 0 <;> simp [a,b] <;> omega
 have hk : Yn (m : Int) = ((List.range (kJ m + 1)).reverse).map fun k : Nat => (k : Int):=by
   unfold Yn xu kJ
   have h1 : ∀ a : Nat,decide ((a : Int) < (m : Int)) = decide (a < m):=fun a => by
     rw [Bool.eq_iff_iff,decide_eq_true_eq,decide_eq_true_eq]; exact ofNat_lt
   have q1:=h1 63
   have q2:=h1 4095
   have q3:=h1 262143
   rw [show decide ((63 : Int) < m) = decide (63 < m) from q1,show decide ((4095 : Int) < m) = decide (4095 < m) from q2,show decide ((262143 : Int) < m) = decide (262143 < m) from q3]
   by_cases a : 262143 < m
   · rw [if_pos a,decide_eq_true a,decide_eq_true (by omega : 63 < m),decide_eq_true (by omega : 4095 < m)]; decide
   · rw [if_neg a,decide_eq_false a]
     by_cases b : 4095 < m
     · rw [if_pos b,decide_eq_true b,decide_eq_true (by omega : 63 < m)]; decide
     · rw [if_neg b,decide_eq_false b]
       by_cases c : 63 < m
       · rw [if_pos c,decide_eq_true c]; decide
       · rw [if_neg c,decide_eq_false c]; decide
 have ht : kJ m < 4:=(jx hm).1
 have ho : ZM (m : Int) = ((List.range (kJ m + 1)).reverse).map fun k : Nat => ((oN k (QQ m k) : Nat) : Int):=by
   unfold ZM
   rw [hk,map_map]
   refine map_congr_left fun k hk' => ?_
   rw [mem_reverse,mem_range] at hk'
   exact hd k (by omega)
 constructor
 · rw [ho,map_map]
   have : ∀ t : Nat,((List.range (t + 1)).reverse).map ((fun n : Int => n.toNat.toUInt8) ∘ fun k : Nat => ((oN k (QQ m k) : Nat) : Int)) = vy m t:=by
     intro t
     induction t with
     | zero => rfl
     | succ t ih =>
       rw [range_succ,List.reverse_append,map_append,ih]
       rfl
   exact this _
 · intro o h
   rw [ho] at h
   obtain ⟨k,hk',rfl⟩:=mem_map.mp h
   rw [mem_reverse,mem_range] at hk'
   have:=(oF (show k < 4 by omega) (vb m k)).1
   omega
theorem Vu : ∀ n : Fin 61,∀ k : Fin 6,decide ((sliceRange (sliceBounds (some (k.val : Int)) none (some 6) n.val).1 (sliceBounds (some (k.val : Int)) none (some 6) n.val).2.1 (sliceBounds (some (k.val : Int)) none (some 6) n.val).2.2).length ≤ 12) = true:=by decide +kernel
theorem Ze : ∀ l : List Int,(∀ x ∈ l,0 ≤ x ∧ x < 1000000) → 0 ≤ l.sum ∧ l.sum ≤ 1000000 * (l.length : Int)
 | [],_ => by simp
 | x :: l,h => by
  have h1:=h x (.head _)
  have h2:=Ze l fun y hy => h y (.tail _ hy)
  rw [List.sum_cons,length_cons]
  omega
theorem zAK {α β : Type} (f : α → Option β) (l : List α) : (l.filterMap f).length ≤ l.length:=List.length_filterMap_le f l
theorem Vd {α : Type} {xs : List α} {lo hi st : Option Int} {x : α} (h : x ∈ zf xs lo hi st) : x ∈ xs:=by
 unfold zf at h
 obtain ⟨i,_,e⟩:=List.mem_filterMap.mp h
 exact mem_of_getElem? e
theorem KI (sc : List Int) : ∃ ms : List Nat,z0 sc = ms.map (fun m : Nat => (m : Int)) ∧ ms.length = 6 ∧ ∀ m ∈ ms,m < 16777216:=by
 have hlt : (yV sc).length ≤ 60:=by unfold yV; rw [length_map,length_take]; exact Nat.min_le_left _ _
 have ht : ∀ x ∈ yV sc,0 ≤ x ∧ x < 1000000:=fun x hx => by
   unfold yV at hx
   obtain ⟨y,_,rfl⟩:=mem_map.mp hx
   exact ⟨Int.fmod_nonneg_of_pos _ (by decide),Int.fmod_lt_of_pos _ (by decide)⟩
 have h0 : ∀ t ∈ z0 sc,0 ≤ t ∧ t < 16777216:=by
   intro t h
   unfold z0 at h
   obtain ⟨k,hk,rfl⟩:=mem_map.mp h
   have hk5 : ∃ j : Nat,k = (j : Int) ∧ j < 6:=by
    rw [show (6 : Int) = ((6 : Nat) : Int) from rfl,XK] at hk
    obtain ⟨j,hj,rfl⟩:=mem_map.mp hk
    exact ⟨j,rfl,mem_range.mp hj⟩
   obtain ⟨j,rfl,hj⟩:=hk5
   have hl : (zf (yV sc) (some (j : Int)) none (some 6)).length ≤ 12:=by
    have:=Vu ⟨(yV sc).length,by omega⟩ ⟨j,hj⟩
    exact le_trans (zAK _ _) (of_decide_eq_true this)
   have hs:=Ze (zf (yV sc) (some (j : Int)) none (some 6)) fun x hx => ht x (Vd hx)
   have hb : ∀ j : Fin 6,0 ≤ q9.getD j.val 0 ∧ q9.getD j.val 0 < 9000:=by decide
   have hb:=hb ⟨j,hj⟩
   rw [toNat_natCast]
   dsimp only at hb
   omega
 refine ⟨(z0 sc).map toNat, ?_, ?_, ?_⟩
 · rw [map_map]
   symm
   refine (map_congr_left fun x hx => ?_).trans (List.map_id (z0 sc))
   have:=h0 x hx
   show ((x.toNat : Nat) : Int) = x
   exact Int.toNat_of_nonneg this.1
 · rw [length_map]; unfold z0; rw [length_map,yM]; rfl
 · intro m hm
   obtain ⟨x,hx,rfl⟩:=mem_map.mp hm
   exact (Int.toNat_lt' (by decide)).mpr (h0 x hx).2
theorem JN {m : Nat} (h : m < 16777216) : (wL m).length ≤ 4:=by unfold wL; rw [wY]; have:=(jx h).1; omega
theorem QT {ms : List Nat} (hm : ∀ m ∈ ms,m < 16777216) : (byteArr (xW (ms.map fun m : Nat => (m : Int)))).toList = ms.flatMap wL ∧ (∀ o ∈ xW (ms.map fun m : Nat => (m : Int)),0 ≤ o ∧ o < 256) ∧ (xW (ms.map fun m : Nat => (m : Int))).length = (ms.flatMap wL).length:=by
 have h1 : (xW (ms.map fun m : Nat => (m : Int))).map (fun n => n.toNat.toUInt8) = ms.flatMap wL:=by
   unfold xW
   rw [List.map_flatMap,List.flatMap_map]
   induction ms with
   | nil => rfl
   | cons m ms ih =>
    rw [flatMap_cons,flatMap_cons,ih fun x hx => hm x (.tail _ hx),(XH (hm m (.head _))).1]
 refine ⟨?_, ?_, ?_⟩
 · unfold byteArr; rw [List.toList_toArray]; exact h1
 · intro o ho
   unfold xW at ho
   obtain ⟨x,hx,ho⟩:=List.mem_flatMap.mp ho
   obtain ⟨m,h,rfl⟩:=mem_map.mp hx
   exact (XH (hm m h)).2 o ho
 · rw [← h1,length_map]
theorem Kb {ms : List Nat} (hm : ∀ m ∈ ms,m < 16777216) : (ms.flatMap wL).length ≤ 4 * ms.length:=by
 induction ms with
 | nil => exact le_refl _
 | cons m ms ih =>
  rw [flatMap_cons,length_append,length_cons]
  have:=JN (hm m (.head _))
  have:=ih fun x hx => hm x (.tail _ hx)
  omega
theorem Yw (b : Array UInt8) : (KBy.picked b none (some (-1))).toList = b.toList.dropLast:=by
 rw [KBc.picked_eq,List.toList_toArray]
 show (List.take (clipAt b.size (-1) - 0) (List.drop 0 b.toList)) = _
 rw [drop_zero,List.dropLast_eq_take,length_toList]
 congr 1
 unfold clipAt
 rw [if_pos (by decide),K4,toNat_natCast,Nat.sub_zero]
theorem Jt {α : Type} {l : List α} (h : l ≠ []) : l = l.dropLast ++ [l.getLast h]:=(List.dropLast_concat_getLast h).symm
theorem J0 {b : Array UInt8} {ms : List Nat} (hm : ∀ m ∈ ms,m < 16777216) (hne : ms ≠ []) (hb : b.toList = ms.flatMap wL) : wy (KBy.picked b none (some (-1))) = (ms.map fun m : Nat => (m : Int)).take ((ms.map fun m : Nat => (m : Int)).length - 1):=by
 have e:=Jt hne
 have hlast:=hm _ (List.getLast_mem hne)
 generalize ms.getLast hne = m at e hlast
 have h1 : ∀ x ∈ ms.dropLast,x < 16777216:=fun x hx => hm x ((List.dropLast_sublist _).subset hx)
 generalize ms.dropLast = ms' at e h1
 subst e
 rw [zAQ h1 hlast]
 · rw [map_append,length_append,map_cons,map_nil,List.length_singleton,Nat.add_sub_cancel,List.take_left]
 · rw [Yw,hb,List.flatMap_append,flatMap_cons,List.flatMap_nil,append_nil,List.dropLast_append_of_ne_nil]
   intro z
   have:=Yh m
   rw [z] at this; cases this
theorem Jb (sums : List Int) : ∃ dr : List Nat,((sums.take 5).filter fun t => decide (t.fmod 17 < 16)).map (fun t => t.fmod 17) = dr.map (fun d : Nat => (d : Int)) ∧ (∀ d ∈ dr,d < 16) ∧ dr.length ≤ 5:=by
 refine ⟨((sums.take 5).filter fun t => decide (t.fmod 17 < 16)).map fun t => (t.fmod 17).toNat, ?_, ?_, ?_⟩
 · rw [map_map]
   refine map_congr_left fun x _ => ?_
   show x.fmod 17 = (((x.fmod 17).toNat : Nat) : Int)
   exact qN (Int.fmod_nonneg_of_pos _ (by decide))
 · intro d hd
   obtain ⟨x,hx,rfl⟩:=mem_map.mp hd
   exact (Int.toNat_lt' (by decide)).mpr (of_decide_eq_true (mem_filter.mp hx).2)
 · rw [length_map]
   exact le_trans (length_filter_le _ _) (by rw [length_take]; exact Nat.min_le_left _ _)
noncomputable abbrev vM (p : Nat) : Str × RV:=(ofString "names",.dat (yB (zU p)))
theorem zAf (H : yt prog w B mg mb C N mN) (R : Rm A 3) (hL : env.frame = some env.locals) (hfr : A.frames = some [env]) {oc : Array UInt8} {sums : List Int} {p : Nat} {t4 : Int} (hsz : oc.size ≤ 1000) (hrd : wy oc = sums) (h4 : sums[5]? = some t4) (hp : t4.fmod 10 = (p : Int))
  (S : St prog w B s₀ Own₀ M₀ zK env Own M [vO oc,vS sums] μ s)
  (hQ : ∀ s',St prog w B s₀ Own₀ M₀ zK env Own M [vP p,vR sums,vO oc,vS sums] μ s' → wpAny (model prog w) A (execs ((zB zv).drop 5) env) Q E s') :
  wpAny (model prog w) A (execs ((zB zv).drop 3) env) Q E s:=by
 have R0 : Rm A 0:=R.le (zero_le _)
 show wpAny _ _ (execs (_ :: _ :: (zB zv).drop 5) env) _ _ _
 refine' vV rfl ?a1 (W6 H R S hL hfr hsz ?a2 ?a3 (fun _ => rfl) fun v s' S' rv => ⟨_,_,_,_,.dat _,S',rv, ?a4⟩)
 case a1 | a2 => k_extra "kd"
 case a3 => k_extra "z"
 case a4 =>
  k_extra "next"
  rw [hrd] at S
  refine' z7 (d:=.int p) S ?c1 ?c2 rfl ?c3
  case c2 => k_extra "kd"
  case c3 => exact fun s' S' => @hQ s' (S'.sub (by k_extra "sub"))
  case c1 =>
   refine' Ev.cast (Ev.bin (da:=.int t4) (db:=.int 10) S.e (Ev.rd (Ev.item (xs:=sums.map .int) (i:=5) ?d1 ?d2 (by decide) (by decide) ?d3)) ?d4 (yC.mod _ _ (by decide) (PyProof.noPylong_of_log2 (by decide +kernel)))) ?d5
   case d1 | d2 => k_extra "z"
   case d3 => show (sums.map D.int)[5]? = _; rw [getElem?_map,h4]; rfl
   case d4 => k_extra "z"
   case d5 => rw [hp]
theorem Y8 (ws : List Int) : QK (.list (ws.map .int)) (.list (ws.map .int)) = true:=yc (xi ws)
theorem JU {le : Expr} {p : Nat} {p1 p2 p3 p4 p5 p6 : Pos} (S : En prog w B names env h M ρ μ) (hm : (ofString "place",RV.dat (.int p)) ∈ ρ) (hv : Ev prog w A h le env (PR prog w M (.list (xM.map .str)))) (Fp : xV p) :
  Ev prog w A h (.Subscript le (.Slice (some (.Name (ofString "place") p1)) (some (.BinOp (.Name (ofString "place") p2) .Add (.Constant (.int 4) 0 p3) p4)) none p5) p6) env (PS prog w M (.list ((zo p).map .str))):=by
 have q : zf (xM.map D.str) (some (p : Int)) (some ((p : Int) + 4)) none = (zo p).map .str:=by rw [yz,Fp.words]
 rw [← q]
 refine' Ev.slice S hv (zY.some (Ev.rd (Ev.name S hm (by decide)))) (zY.some (Ev.rd (Ev.bin S (Ev.rd (Ev.name S hm (by decide))) (Ev.rd (Ev.const_int _ _ _)) (yC.add _ _)))) zY.none (by decide) ?_
 rw [length_map,sizeLine_eq]; decide
theorem zAb : xM.map D.str = [.str (ofString "OPTIMIZED"),.str (ofString "NEWLOCALS"),.str (ofString "VARARGS"),.str (ofString "VARKEYWORDS"),.str (ofString "NESTED"),.str (ofString "GENERATOR"),.str (ofString "NOFREE"),.str (ofString "COROUTINE"),.str (ofString "ITERABLE_COROUTINE"),.str (ofString "ASYNC_GENERATOR"),.str (ofString "0x400"),.str (ofString "0x800"),.str (ofString "0x1000")]:=rfl
theorem zAJ (H : yt prog w B mg mb C N mN) (R : Rm A 3) {oc : Array UInt8} {sums : List Int} {p : Nat} (Fp : xV p) (hlen : sums.length ≤ 1000)
  (S : St prog w B s₀ Own₀ M₀ zK env Own M [vP p,vR sums,vO oc,vS sums] μ s)
  (hQ : ∀ s',St prog w B s₀ Own₀ M₀ zK env Own M [vM p,vW p,vP p,vR sums,vO oc,vS sums] μ s' → wpAny (model prog w) A (execs ((zB zv).drop 7) env) Q E s') :
  wpAny (model prog w) A (execs ((zB zv).drop 5) env) Q E s:=by
 have R0 : Rm A 0:=R.le (zero_le _)
 have G:=H.le.hdr.G
 have hr:=H.le.range
 have hp10:=Fp.lt
 show wpAny _ _ (execs (_ :: _ :: (zB zv).drop 7) env) _ _ _
 refine' z7 S ?b1 ?b2 ?b4 ?b3
 case b4 => rfl
 case b2 => k_extra "kd"
 case b1 =>
  refine @JU _ _ _ _ _ _ _ _ _ _ _ _ _ _ _ _ _ _ S.e ?v1 ?v2 Fp
  case v1 => k_extra "mem"
  case v2 =>
   rw [zAb]
   refine @Ev.rd _ _ _ _ _ _ _ _ (@Ev.list _ _ _ _ _ _ _ _ _ _ S.e _ _ _ ?vx ?vl)
   case vx => k_extra "z"
   case vl => rw [sizeLine_eq]; decide
 case b3 =>
  k_extra "next"
  obtain ⟨ff,ffd,HF,hbf⟩:=H.flags
  obtain ⟨fa,hfa,hT⟩:=H.flagT
  refine' xw S ?c1 R0 ?c2 (dsrc:=.rng 0 (16 : Nat) 1) ?c3 (List.range 16) (fun n : Nat => .int n) (zj.nat (by decide)) (fun n => .str (zU p n)) ?c4 ?c5 ?c6 ?c7 ?c8
  case c1 | c2 => k_extra "kd"
  case c3 => k_extra "z"
  case c4 => k_extra "kd"
  case c5 => rw [length_range,sizeLine_eq]; decide
  case c6 => k_extra "fs"
  case c7 =>
   intro n hn env' h' M' kx hE
   have hn:=mem_range.mp hn
   refine' Ev.call hE (R.le (by decide : 1 ≤ 3)) ?f12 HF.keepy (yy.cons ?x12 .nil fun _ => rfl) (zG.of_def G HF [ofString "flags"] (ds:=[.int ((n : Int) * 2 ^ p)]) (fun vs hl s => ?_) rfl (by simp) (by k_extra "kd") rfl (WE G hr H.hex hfa hT _ _ (Fp.fl n hn) (Fp.jf n hn)))
   case f12 => k_extra "z"
   case x12 =>
    refine' Ev.rd (Ev.bin (da:=.int n) (db:=.int p) hE ?e1 ?e2 (yC.shl _ _ ?e3 ?e4 ?e5))
    case e1 | e2 => k_extra "z"
    case e3 | e4 | e5 => k_extra "o"
   obtain ⟨a,rfl⟩:=Qr hl
   exact hbf a s
  case c8 =>
   intro s' S'
   refine hQ s' (S'.sub ?_)
   k_extra "sub"
theorem zAE (H : yt prog w B mg mb C N mN) (R : Rm A 3) (hL : env.frame = some env.locals) (hfr : A.frames = some [env]) {oc : Array UInt8} {sums : List Int} {p : Nat} (Fp : xV p) (hlen : sums.length ≤ 1000) (hsz : oc.size ≤ 1000) (hsz2 : (KBy.picked oc none (some (-1))).size ≤ 1000) (hrd : wy (KBy.picked oc none (some (-1))) = sums.take (sums.length - 1))
  (S : St prog w B s₀ Own₀ M₀ zK env Own M [vM p,vW p,vP p,vR sums,vO oc,vS sums] μ s)
  (hQ : ∀ s',St prog w B s₀ Own₀ M₀ zK env Own M [vM p,vW p,vR sums] μ s' → wpAny (model prog w) A (execs ((zB zv).drop 9) env) Q E s') :
  wpAny (model prog w) A (execs ((zB zv).drop 7) env) Q E s:=by
 have R0 : Rm A 0:=R.le (zero_le _)
 have G:=H.le.hdr.G
 have hr:=H.le.range
 have hp10:=Fp.lt
 show wpAny _ _ (execs (_ :: _ :: (zB zv).drop 9) env) _ _ _
 refine' xw S ?c1 R0 ?c2 (dsrc:=.rng 0 (16 : Nat) 1) ?c3 (List.range 16) (fun n : Nat => .int n) (zj.nat (by decide)) (fun n => .str (zU p n)) ?c4 ?c5 ?c6 ?c7 ?c8
 case c1 | c2 => k_extra "kd"
 case c3 => k_extra "z"
 case c4 => k_extra "kd"
 case c5 => rw [length_range,sizeLine_eq]; decide
 case c6 => k_extra "fs"
 case c7 =>
  intro n hn env' h' M' kx hE
  have hn:=mem_range.mp hn
  refine' Ev.meth (T := "str") hE R0 ?qo rfl F.plainAttrs_str F.slot_str_join F.type_str_join (yy.cons (Ev.rd (Ev.cast (Ev.or2 (d:=.list ((Vv p n).map .str)) (e:=.list ([Kt].map .str)) ?x1 (ym.list _ ?x2) ?x3) ?x4)) .nil fun _ => rfl) rfl (by decide) rfl (zG.join wz (WB p n) (Fp.jf n hn))
  case qo => k_extra "z"
  case x2 => rw [length_map,sizeLine_eq]; exact le_trans (by unfold Vv; rw [length_map]; exact le_trans (length_filter_le _ _) (by rw [length_range]; exact (by decide : 4 ≤ 1000))) (by decide)
  case x3 => intro _; (first | show Ev _ _ _ _ _ _ (PS _ _ _ (.list [.str (ofString "0x0")])) | show Ev _ _ _ _ _ _ (PR _ _ _ (.list [.str (ofString "0x0")]))); k_extra "z"
  case x4 => unfold WB; cases Vv p n <;> rfl
  case x1 =>
   refine' Ev.cast (Ev.comp1F hE R0 ?y1 (dsrc:=.rng 0 (4 : Nat) 1) ?y2 (List.range 4) (fun n : Nat => .int n) (zj.nat (by decide)) (ZA n) (fun k => .str ((zo p).getD k eS)) ?y3 ?y4 ?y5 ?y6) ?y7
   case y1 => k_extra "kd"
   case y2 => k_extra "z"
   case y3 => k_extra "kd"
   case y4 => rw [length_range,sizeLine_eq]; decide
   case y5 => k_extra "fs"
   case y7 => unfold Vv; rw [map_map]; rfl
   case y6 =>
    clear hE
    intro k hk env'' h'' M'' kx' hE
    have hk:=mem_range.mp hk
    refine ⟨xl.one ?t1,fun _ => ?t2⟩
    case t1 =>
     refine' Tv.plain (Ev.rd (Ev.bin (da:=.int ((n : Int).fdiv (2 ^ k))) (db:=.int 1) hE (Ev.rd (Ev.bin (da:=.int n) (db:=.int k) hE ?u1 ?u2 (yC.shr _ _ ?u3))) ?u4 (yC.and _ _))) (ym.int _) rfl
     case u1 | u2 => k_extra "z"
     case u3 => k_extra "o"
     case u4 => k_extra "z"
    case t2 =>
     refine' Ev.item (xs:=(zo p).map .str) (i:=(k : Int)) ?v1 ?v2 (by k_extra "o") (by k_extra "o") ?v3
     case v1 | v2 => k_extra "z"
     case v3 =>
      have hl:=Fp.len
      rw [toNat_natCast,getElem?_map,getD_eq_getElem?_getD,getElem?_eq_getElem (by k_extra "o")]
      rfl
 case c8 =>
  k_extra "next"
  refine' zAV (μ':=μ) S ?t1 ?t2
  case t2 => exact fun s' S' => hQ s' (S'.sub (by k_extra "sub"))
  case t1 =>
   refine ZE.or_cons (μ₂:=μ) (ZE.of_tv fun s S => ?q1) (ZE.or_cons (μ₂:=μ) ?q2 (ZE.or_cons (μ₂:=μ) (ZE.of_tv fun s S => ?q3) ZE.or_nil))
   case q1 =>
    refine' Tv.cast (Tv.cmp (da:=.list (sums.map .int)) (db:=.list (sums.map .int)) R0 ?l1 ?l2 (zN.ne (xi _) (xi _)) rfl) (by rw [Y8]; rfl)
    case l1 | l2 => k_extra "z"
   case q2 =>
    refine' ZE.cast' (ZE.cmpL (da:=.list ((sums.take (sums.length - 1)).map .int)) (db:=.list ((sums.take (sums.length - 1)).map .int)) R0 ?m1 (fun s S => ?m2) (zN.ne (xi _) (xi _)) rfl) (by rw [Y8]; rfl)
    case m1 =>
     intro s S Q' hQ'
     refine' W6 H R S hL hfr hsz2 ?n1 (Ev.sliceB (lo:=none) (hi:=some (-1)) S.e ?n2 zY.none ?n3 ?n4) (fun _ => rfl) fun v s' S' rv => ?n5
     case n1 => k_extra "kd"
     case n2 | n3 => k_extra "z"
     case n4 => rw [sizeLine_eq]; k_extra "o"
     case n5 => rw [hrd] at rv; exact hQ' v s' S' rv
    case m2 =>
     refine' Ev.rd (Ev.cast (Ev.slice (xs:=sums.map .int) (lo:=none) (hi:=some (-1)) (st:=none) S.e ?n6 zY.none ?n7 zY.none (by decide) ?n8) ?n9)
     case n6 | n7 => k_extra "z"
     case n8 => rw [length_map,sizeLine_eq]; k_extra "o"
     case n9 => rw [yz,Xw]
   case q3 =>
    have ho : xz 8 (yB (zU p)) = true:=by
     rw [xq,all_eq_true]
     intro d hd
     obtain ⟨n,hn,rfl⟩:=mem_map.mp hd
     exact Fp.ok n (mem_range.mp hn)
    refine' Tv.cast (Tv.cmp (da:=yB (zU p)) (db:=yB (zU p)) R0 ?l3 ?l4 (zN.ne ho ho) rfl) (by rw [yc ho]; rfl)
    case l3 | l4 => k_extra "z"
noncomputable def ltP (a : Nat) (d : D) : Bool:=match d with | .int b => decide ((a : Int) < b) | _ => false
noncomputable def Xz (x : Nat × Nat) (xs : List (Nat × Nat)) : List (Nat × Nat):=xs.takeWhile (fun q => decide (q.1 ≤ x.1)) ++ x :: xs.dropWhile (fun q => decide (q.1 ≤ x.1))
noncomputable def jo (xs : List (Nat × Nat)) : Prop:=xs.Pairwise fun a b => a.1 < b.1 ∨ (a.1 = b.1 ∧ a.2 < b.2)
theorem WT {α : Type} {p : α → Bool} : ∀ {xs : List α} {y : α},y ∈ xs.takeWhile p → p y = true
 | x :: xs,y,h => by
  rw [List.takeWhile_cons] at h
  by_cases hp : p x = true
  · rw [if_pos hp] at h
    rcases mem_cons.mp h with rfl | h
    · exact hp
    · exact WT h
  · rw [if_neg hp] at h; cases h
theorem jo.fst {xs : List (Nat × Nat)} (h : jo xs) : (xs.map Prod.fst).Pairwise (· ≤ ·) :=
 pairwise_map.mpr (List.Pairwise.imp (fun q => q.elim le_of_lt fun q => le_of_eq q.1) h)
theorem X0 {n : Nat} : ∀ {xs : List (Nat × Nat)},jo xs → ∀ y ∈ xs.dropWhile (fun q => decide (q.1 ≤ n)),n < y.1
 | x :: xs,h,y,hy => by
  rw [List.dropWhile_cons] at hy
  have h:=pairwise_cons.mp h
  by_cases hp : x.1 ≤ n
  · rw [if_pos (decide_eq_true hp)] at hy
    exact X0 h.2 y hy
  · rw [if_neg (by simpa using hp)] at hy
    rcases mem_cons.mp hy with rfl | hy
    · exact Nat.not_le.mp hp
    · exact lt_of_lt_of_le (Nat.not_le.mp hp) ((h.1 y hy).elim le_of_lt fun q => le_of_eq q.1)
theorem WY {xs : List (Nat × Nat)} (hs : jo xs) (x : Nat × Nat) : XI (fun d => !ltP x.1 (Yt d)) (xs.map zQ) (zQ x) = (Xz x xs).map zQ:=by
 have e : xs.map zQ = (xs.takeWhile (fun q => decide (q.1 ≤ x.1))).map zQ ++ (xs.dropWhile (fun q => decide (q.1 ≤ x.1))).map zQ:=by
  rw [← map_append,List.takeWhile_append_dropWhile]
 have hl : jb (fun d => !ltP x.1 (Yt d)) (xs.map zQ) = ((xs.takeWhile (fun q => decide (q.1 ≤ x.1))).map zQ).length:=by
  unfold jb
  rw [e]
  refine j9 _ _ _ (fun d hd => ?_) (fun d hd => ?_)
  · obtain ⟨q,hq,rfl⟩:=mem_map.mp hd
    have:=of_decide_eq_true (WT (p:=fun q : Nat × Nat => decide (q.1 ≤ x.1)) hq)
    show (!decide ((x.1 : Int) < (q.1 : Int))) = true
    rw [decide_eq_false (by omega)]; rfl
  · obtain ⟨q,hq,rfl⟩:=mem_map.mp hd
    have:=X0 hs q hq
    show (!decide ((x.1 : Int) < (q.1 : Int))) = false
    rw [decide_eq_true (by omega)]; rfl
 unfold XI
 rw [hl]
 conv => lhs; rw [e]
 rw [List.take_left,List.drop_left]
 unfold Xz
 rw [map_append,map_cons]
theorem Va (x : Nat × Nat) (xs : List (Nat × Nat)) : (Xz x xs).Perm (x :: xs):=by
 unfold Xz
 refine List.perm_middle.trans ?_
 rw [List.takeWhile_append_dropWhile]
theorem QS {x : Nat × Nat} {xs : List (Nat × Nat)} (h : jo xs) (ht : ∀ q ∈ xs,q.2 < x.2) : jo (Xz x xs):=by
 have e:=List.takeWhile_append_dropWhile (p:=fun q : Nat × Nat => decide (q.1 ≤ x.1)) (l:=xs)
 have h':=h
 unfold jo at h'
 rw [← e,List.pairwise_append] at h'
 unfold Xz jo
 rw [List.pairwise_append,pairwise_cons]
 refine ⟨h'.1,⟨fun q hq => .inl (X0 h q hq),h'.2.1⟩,fun a ha b hb => ?_⟩
 rcases mem_cons.mp hb with rfl | hb
 · have h1:=of_decide_eq_true (WT (p:=fun q : Nat × Nat => decide (q.1 ≤ b.1)) ha)
   have h2:=ht a ((List.takeWhile_sublist _).subset ha)
   rcases Nat.lt_or_ge a.1 b.1 with z | z
   · exact .inl z
   · exact .inr ⟨le_antisymm h1 z,h2⟩
 · exact h'.2.2 a ha b hb
noncomputable def v7 (dr : List Nat) : Nat → List (Nat × Nat)
 | 0 => []
 | n + 1 => Xz (dr.getD n 0,n) (v7 dr n)
theorem xt (dr : List Nat) : ∀ n,(v7 dr n).Perm ((List.range n).map fun i => (dr.getD i 0,i))
 | 0 => .nil
 | n + 1 => by
  rw [range_succ,map_append]
  exact (Va _ _).trans ((List.Perm.cons _ (xt dr n)).trans (List.perm_append_singleton _ _).symm)
theorem JO (dr : List Nat) (n : Nat) : ∀ q ∈ v7 dr n,q.2 < n:=fun q hq => by
 obtain ⟨i,hi,rfl⟩:=mem_map.mp ((xt dr n).mem_iff.mp hq)
 exact mem_range.mp hi
theorem ve (dr : List Nat) : ∀ n,jo (v7 dr n)
 | 0 => .nil
 | n + 1 => QS (ve dr n) fun q hq => JO dr n q hq
theorem Zy (dr : List Nat) (n : Nat) : (v7 dr n).length = n:=by
 rw [(xt dr n).length_eq,length_map,length_range]
theorem WQ (dr : List Nat) (n : Nat) : XI (fun d => !ltP (dr.getD n 0) (Yt d)) ((v7 dr n).map zQ) (zQ (dr.getD n 0,n)) = (v7 dr (n + 1)).map zQ :=
 WY (ve dr n) (dr.getD n 0,n)
noncomputable def xU (dr : List Nat) : List (Nat × Nat):=v7 dr dr.length
theorem Vo (dr : List Nat) {m : Nat} (h : dr.length ≤ m) : ((List.range dr.length).map fun i => (dr.getD i 0,i)) = dr.zip (List.range m):=by
 refine List.ext_getElem (by simp; omega) fun i h1 h2 => ?_
 simp only [length_map,length_range] at h1
 simp [getElem?_eq_getElem h1]
theorem WP (dr : List Nat) {m : Nat} (h : dr.length ≤ m) : (xU dr).Perm (dr.zip (List.range m)):=by
 rw [← Vo dr h]; exact xt dr dr.length
theorem QC (dr : List Nat) : ((xU dr).map Prod.fst).Perm dr:=by
 have:=(WP dr (le_refl _)).map Prod.fst
 rw [List.map_fst_zip (by simp)] at this
 exact this
theorem ZJ (H : Jk B mg mb) {P L : Addr} {qs : List (Pos × Str)} {ps : Array Value} {os : List (Addr × Obj)} {xs ys : List D} {xd : D} {pre mid post : List (Addr × D)} (T : Tb B mg env P qs) (S : St prog w B s₀ Own₀ M₀ names env Own M ρ μ s) (hμ : μ = pre ++ (L,.list xs) :: mid ++ (P,.obs P (tabObj ps) os) :: post)
  (hOP : Own P) (hOL : Own L) (hT : z6 qs ps os) (R : Rm A (k + 3)) {xv px : Str} {fp xp kp pos pos2 lpos : Pos} {e : Expr} {params : Arguments} {body : Expr} {scope : Scope} {step : D → D} (lt : D → Bool) (hxv : (xv,RV.adr L) ∈ ρ) (hdb : (xv == ("__debug__" : Str)) = false) (hgi : names.lookup (ofString "insort_right") = some .globalImplicit)
  (he : Ev prog w A s.heap e env (PS prog w M xd)) (hst : ∀ rest,starEach (e :: rest) env = (false,eval e env) :: starEach rest env)
  (hq : (lpos,env.qual ++ "<lambda>") ∈ qs) (hdef : defaultsOf params env = ([],[])) (hc : yQ names scope = true) (hf : vg scope = true) (hx : zT scope.names px = true)
  (hb : ∀ fd c' cl,ZN fd params (.expr body) scope (env.qual ++ "<lambda>") c' cl → ∀ v s,BindsTo s fd ⟨[v],[]⟩ [(px,v)])
  (ev : ∀ d ∈ ys,∀ A env h M B',zS B B' → Rm A k → En prog w B' scope.names env h M ((px,.dat d) :: xa scope.names ρ) [] → Ev prog w A h body env (PS prog w M (step d)))
  (hxs : ∀ d ∈ xs,d ∈ ys) (hxd : xd ∈ ys) (hsz : xs.length ≤ 100000) (hcmp : ∀ d,d ∈ xs → zN prog w .Lt (step xd) (step d) (lt (step d)))
  (hs : swapsWith (.Call (.Name (ofString "insort_right") fp) [.Name xv xp,e] [⟨some (ofString "key"),.Lambda params body scope lpos,kp⟩] pos) none pos2.line env = pure false)
  (hQ : ∀ ps' os' s',z6 qs ps' os' → St prog w B s₀ Own₀ M₀ names env Own M ρ (pre ++ (L,.list (XI (fun d => !lt (step d)) xs xd)) :: mid ++ (P,.obs P (tabObj ps') os') :: post) s' → wpAny (model prog w) A (execs rest env) Q E s') :
  wpAny (model prog w) A (execs (.Expr (.Call (.Name (ofString "insort_right") fp) [.Name xv xp,e] [⟨some (ofString "key"),.Lambda params body scope lpos,kp⟩] pos) pos2 :: rest) env) Q E s:=by
 obtain ⟨f,fd,t,HI,BI⟩:=H.ins
 subst hμ
 refine xf S.e.n ?_ hs
 refine jO (f:=.ref f) (rs:=[.adr L,.dat xd]) S.e (Ev.glob H.G S.e hgi (.inl HI.g) (by decide)) HI.keepy (.cons (Ev.var S.e hxv hdb) (.cons (r:=.dat xd) he .nil hst) fun _ => rfl) rfl fun vs s₁ k₁ rs => ?_
 refine zP.use2 rs fun v1 v2 r1 r2 => ?_
 have r1 : v1 = .ref L:=r1
 subst r1
 have S₁:=S.step k₁
 have eμ : pre ++ (L,D.list xs) :: mid ++ (P,D.obs P (tabObj ps) os) :: post = (pre ++ (L,D.list xs) :: mid) ++ (P,D.obs P (tabObj ps) os) :: post:=rfl
 refine Qi T (pre:=pre ++ (L,D.list xs) :: mid) (post:=post) S₁ hOP hT hq hdef hc fun kf fo fd2 c' oc cl ps' os' s₂ hfd F hco hT' K S₂ rf ef => ?_
 obtain ⟨_,hfo,hfm,hcs⟩:=rf.obs_inv
 obtain ⟨hc1,hc2⟩:=hcs (c',oc) (.head _)
 have ML:=S₂.own L hOL
 have r2' : Rp prog w s₂.heap M v2 xd:=by
  obtain ⟨h2,tk2,rfl,kk⟩:=ef
  exact Rp.to (fun a o m e => ⟨kk a o (fun z => m (by rw [mem_singleton.mp z]; exact S.own P hOP)) e,m⟩) r2
 have XB : zS B (hideAll s₂.heap [L]):=xg (h:=s₂.heap) [L] S₂.e.base fun a z => by rw [mem_singleton.mp z]; exact S₂.base L hOL
 have nl : ∀ {a : Addr} {o : Obj},¬ M a → s₂.heap.get? a = some o → (hideAll s₂.heap [L]).get? a = some o:=fun {a o} m e => hideAll_get _ e fun z => m (by rw [mem_singleton.mp z]; exact ML)
 have KO : wP prog w (k + 1) (hideAll s₂.heap [L]) M kf ys (fun _ : Unit => True) (fun _ => []) (fun c d => (c,step d)):=by
  refine VC (B₀:=B) (ρ:=ρ) F hf H.G.lim XB (nl hfm hfo) hfd ?_ (K.hide fun a z => ?_) (hb fd2 c' cl F) hx (fun d hd A env h M R' S' => ev d hd A env h M _ XB R' S')
  · obtain ⟨us,t',q1,q2⟩:=hco
    exact ⟨c',oc,us,t',rfl,nl hc2 hc1,q1,q2⟩
  · rw [mem_singleton.mp z]
    exact ⟨ML,fun v q => zr (S₂.e.mem L (.list xs) (mem_append_left _ (mem_append_right _ kR))) q⟩
 refine ⟨S₂.e.base, ?_⟩
 refine YS (M₁:=M) H HI BI lt (R.le (by k_extra "o")) S₂.e.base S₂.e.old ML (S₂.base L hOL) hfd hfo hfm KO hxs hxd (S₂.e.mem L _ (mem_append_left _ (mem_append_right _ kR))) r2' hsz hcmp fun s₃ ef3 c3 => ?_
 obtain ⟨h3,tk3,rfl,kk3⟩:=ef3
 refine hQ ps' os' _ hT' ?_
 have e2 : (pre ++ (L,D.list xs) :: mid) ++ (P,D.obs P (tabObj ps') os') :: post = pre ++ (L,D.list xs) :: (mid ++ (P,D.obs P (tabObj ps') os') :: post):=by simp
 rw [e2] at S₂
 have S₃:=S₂.effect1 (h':=h3) (tk:=tk3) rfl hOL (fun b o n e => kk3 b o (by simpa using n) e) c3
 have e3 : pre ++ (L,D.list (XI (fun d => !lt (step d)) xs xd)) :: (mid ++ (P,D.obs P (tabObj ps') os') :: post) = pre ++ (L,D.list (XI (fun d => !lt (step d)) xs xd)) :: mid ++ (P,D.obs P (tabObj ps') os') :: post:=by simp
 rw [e3] at S₃
 exact S₃
noncomputable abbrev zCJ : List Pos:=[⟨259,52,259,72⟩]
noncomputable abbrev Zi (env : Env) : List (Pos × Str):=zCJ.map fun p => (p,env.qual ++ "<lambda>")
theorem XZ (env : Env) : xG (Zi env) = true:=by
 simp only [xG,Zi,List.all_map,all_eq_true,Function.comp_def]
 intro p hp q hq
 rw [beq_self_eq_true,Bool.or_true]
noncomputable abbrev vG (l : List (Nat × Nat)) : Str × RV:=(ofString "page",.dat (.list (l.map zQ)))
theorem zAj (H : yt prog w B mg mb C N mN) (R : Rm A 3) {p : Nat} {sums : List Int} {dr : List Nat} (hlen : sums.length ≤ 1000) (hdr : ((sums.take 5).filter fun t => decide (t.fmod 17 < 16)).map (fun t => t.fmod 17) = dr.map fun d : Nat => (d : Int))
  (S : St prog w B s₀ Own₀ M₀ zK env Own M [vM p,vW p,vR sums] μ s)
  (hQ : ∀ s',St prog w B s₀ Own₀ M₀ zK env Own M [vD dr,vM p,vW p,vR sums] μ s' → wpAny (model prog w) A (execs ((zB zv).drop 10) env) Q E s') :
  wpAny (model prog w) A (execs ((zB zv).drop 9) env) Q E s:=by
 have R0 : Rm A 0:=R.le (zero_le _)
 have G:=H.le.hdr.G
 show wpAny _ _ (execs (_ :: (zB zv).drop 10) env) _ _ _
 refine' ku S ?a1 R0 ?a2 (dsrc:=.list ((sums.take 5).map .int)) ?a3 (sums.take 5) .int (zj.list _) (fun t => decide (t.fmod 17 < 16)) (fun t => .int (t.fmod 17)) ?a4 ?a5 ?a6 ?a7 ?a8
 case a1 | a2 | a4 => k_extra "kd"
 case a5 => rw [length_take,sizeLine_eq]; k_extra "o"
 case a6 => k_extra "fs"
 case a3 =>
  refine' Ev.rd (Ev.cast (Ev.slice (xs:=sums.map .int) (lo:=none) (hi:=some ((5 : Nat) : Int)) (st:=none) S.e ?qv zY.none ?qu zY.none (by decide) ?qz) ?qq)
  case qv | qu => k_extra "z"
  case qz => rw [length_map,sizeLine_eq]; k_extra "o"
  case qq => rw [yz,XX]
 case a7 =>
  intro z hz env' h' M' kx hE
  refine ⟨xl.one ?t1,fun _ => ?t2⟩
  case t1 | t2 => k_extra "z"
 case a8 =>
  k_extra "next"
  have e1 : ((sums.take 5).filter fun t => decide (t.fmod 17 < 16)).map (fun t => D.int (t.fmod 17)) = dr.map fun d : Nat => D.int d:=by
   have:=congrArg (List.map D.int) hdr
   rw [map_map,map_map] at this
   exact this
  rw [e1] at S
  exact @hQ s' (S.sub (by k_extra "sub"))
theorem zAy (H : yt prog w B mg mb C N mN) (R : Rm A 4) {p : Nat} {sums : List Int} {dr : List Nat} (hd16 : ∀ d ∈ dr,d < 16) (hdl : dr.length ≤ 5) {P Pr : Addr} (T : Tb B mg env P (Zi env)) (hOP : Own P) (hP0 : Own₀ P) {d' : D}
  (S : St prog w B s₀ Own₀ M₀ zK env Own M [vD dr,vM p,vW p,vR sums] [(P,.obs P (tabObj #[]) []),(Pr,d')] s)
  (hQ : ∀ Own' M' ps os s',Own' P → z6 (Zi env) ps os → (∀ b,Own b → Own' b) → (∀ b,M b → M' b) →
   St prog w B s₀ Own₀ M₀ zK env Own' M' [vG (xU dr),vD dr,vM p,vW p,vR sums] [(P,.obs P (tabObj ps) os),(Pr,d')] s' →
   wpAny (model prog w) A (execs ((zB zv).drop 12) env) Q E s') :
  wpAny (model prog w) A (execs ((zB zv).drop 10) env) Q E s:=by
 have R0 : Rm A 0:=R.le (zero_le _)
 have G:=H.le.hdr.G
 have hr:=H.le.range
 have hln:=H.le.ell.len
 have hmore:=S.more
 have hown:=S.own
 have hown0:=S.own₀
 show wpAny _ _ (execs (_ :: _ :: (zB zv).drop 12) env) _ _ _
 refine' wC (d:=.list []) S ?a1 ?a2 rfl ?a3
 case a1 => k_extra "z"
 case a2 => k_extra "kd"
 case a3 =>
  clear S
  intro La s' hLa S
  have n1 : ¬ M₀ La:=fun z => hLa (hmore _ z)
  have nP : La ≠ P:=fun z => hLa (z ▸ hown P hOP)
  have n2 : ¬ Own₀ La:=fun z => hLa (hown _ (hown0 _ z))
  refine' xP (α:=Nat) (σ:=List D × Array Value × List (Addr × Obj)) S R0 ?qv (dsrc:=.rng 0 (dr.length : Nat) 1) (List.range dr.length) (fun n : Nat => .int n) (zj.nat ?qn) (fun n => [(ofString "turn",.dat (.int n))]) ?asg ?fs
   (fun _ => [(ofString "page",.adr La),vD dr,vM p,vW p,vR sums])
   (fun c => [(La,.list c.1),(P,.obs P (tabObj c.2.1) c.2.2),(Pr,d')])
   (fun i c => c.1 = (v7 dr i).map zQ ∧ z6 (Zi env) c.2.1 c.2.2) (fun _ _ _ => False) ([],#[],[]) ?hp0 ?rho rfl ?off ?turn ?done ?exit
  case qv =>
   refine' Ev.call S.e R0 (Ev.glob G S.e ?e1 (.inr hr) (by decide)) ?e2 (yy.cons (Ev.rd (Ev.cast (Ev.call S.e R0 (Ev.glob G S.e ?e3 (.inr hln) (by decide)) ?e4 (yy.cons ?e5 .nil fun _ => rfl) (zG.lenL (dr.map fun d : Nat => .int d) ?e6)) ?e7)) .nil fun _ => rfl) (zG.range1 _)
   case e1 => k_extra "kd"
   case e2 => k_extra "z"
   case e3 => k_extra "kd"
   case e4 | e5 => k_extra "z"
   case e6 => rw [length_map,sizeLine_eq]; k_extra "o"
   case e7 => rw [length_map]
  case qn =>
   have hsm : ∀ n : Fin 6,Builtin.Range.small 0 ((n.val : Nat) : Int) 1 = true:=by decide
   exact hsm ⟨dr.length,by omega⟩
  case asg => exact fun y _ => wu.name (by k_extra "kd")
  case fs => k_extra "fs"
  case hp0 => exact ⟨rfl,z6.nil _⟩
  case rho => k_extra "sub"
  case off => intro c y; k_extra "kd"
  case exit => exact fun f c s' h _ => h.elim
  case turn =>
   clear S
   intro i y c M' s₁ hy hP' hMM S
   obtain ⟨xs,pst,ost⟩:=c
   obtain ⟨hK,hTb⟩:=hP'
   dsimp only at hK hTb S
   have hyi : y = i ∧ i < dr.length:=by
    obtain ⟨h1,h2⟩:=List.getElem?_eq_some_iff.mp hy
    rw [length_range] at h1
    rw [List.getElem_range] at h2
    exact ⟨h2.symm,h1⟩
   obtain ⟨rfl,hi⟩:=hyi
   have hnext:=WQ dr y
   rw [← hK] at hnext
   have hxs : ∀ d ∈ xs,∃ q : Nat × Nat,d = zQ q:=fun d hd => by
    rw [hK] at hd
    obtain ⟨q,_,e⟩:=mem_map.mp hd
    exact ⟨q,e.symm⟩
   have hxl : xs.length ≤ 5:=by rw [hK,length_map,Zy]; omega
   clear hK
   show wpAny _ _ (execs (_ :: []) _) _ _ _
   refine' ZJ (k:=0) (P:=P) (L:=La) (ps:=pst) (os:=ost) (xs:=xs) (ys:=zQ (dr.getD y 0,y) :: xs) (xd:=zQ (dr.getD y 0,y)) (pre:=[]) (mid:=[]) (post:=[(Pr,d')]) (step:=Yt) (px:=ofString "pair")
    H.le.bis T S rfl ?i1 ?i2 hTb (R.le (by decide)) (ltP (dr.getD y 0)) ?i3 ?i4 ?i5 ?i0 (fun _ => rfl) ?i6 rfl ?i7 ?i8 ?i9 (fun fd c' cl F => ?i10) ?i11 ?i12 ?i13 ?i14 ?i15 rfl ?i16
   case i0 =>
    refine' Ev.tuple S.e (.cons (d:=zC (dr.getD y 0)) ?t1 (.cons (d:=zC y) ?t2 .nil fun _ => rfl) fun _ => rfl) (by show 2 ≤ _; rw [sizeLine_eq]; decide)
    case t1 =>
     refine' Ev.item (xs:=dr.map fun d : Nat => .int d) (i:=(y : Int)) ?v1 ?v2 (by k_extra "o") (by k_extra "o") ?v3
     case v1 | v2 => k_extra "z"
     case v3 => rw [toNat_natCast,getElem?_map,getD_eq_getElem?_getD,getElem?_eq_getElem hi]; rfl
    case t2 => unfold zC; k_extra "z"
   case i1 => exact .inl hOP
   case i2 => exact .inr rfl
   case i3 => k_extra "mem"
   case i4 | i5 => k_extra "kd"
   case i6 => exact .head _
   case i7 | i8 | i9 => k_extra "kd"
   case i10 =>
    refine fun v s => ZU F ?_ v s
    intro fd v e1 e2 e3
    obtain ⟨f1,f2,f3,f4,f5,f6,f7,f8,f9,f10,f11,f12,f13,f14,f15⟩:=fd
    dsimp only at e1 e2 e3
    subst e1 e2 e3
    rfl
   case i11 =>
    intro d hd A2 env2 h2 M2 B2 X2 R2 hE
    obtain ⟨q,rfl⟩ : ∃ q : Nat × Nat,d = zQ q:=by
     rcases mem_cons.mp hd with e | hd
     · exact ⟨_,e⟩
     · exact hxs d hd
    clear hd
    refine' Ev.itemT (xs:=[zC q.1,zC q.2]) (i:=0) (j:=0) ?v1 ?v2 (by decide) (by decide) rfl rfl
    case v1 => exact Ev.rd (Ev.name hE (.head _) (by decide))
    case v2 => k_extra "z"
   case i12 => exact fun d hd => .tail _ hd
   case i13 => exact .head _
   case i14 => omega
   case i15 =>
    intro d hd
    obtain ⟨q,rfl⟩:=hxs d hd
    exact zN.lt _ _
   case i16 =>
    intro ps2 os2 s2 hT2 S2
    refine zD ⟨(XI (fun d => !ltP (dr.getD y 0) (Yt d)) xs (zQ (dr.getD y 0,y)),ps2,os2),_,_,S2.sub ?q1,hnext,hT2⟩
    case q1 => exact fun _ _ hm => .tail _ hm
  case done =>
   clear S
   intro c s' hP' S
   obtain ⟨xs,pst,ost⟩:=c
   obtain ⟨hK,hTb⟩:=hP'
   dsimp only at hK hTb S
   rw [length_range] at hK
   have hK : xs = (xU dr).map zQ:=hK
   subst hK
   refine zD ?_
   have S2:=S.freezeAt (Own:=fun b => (Own b ∨ b = La) ∧ b ≠ La) (M:=fun b => (M b ∨ b = La) ∧ b ≠ La) (a:=La) (x:=ofString "page") (pre:=[]) (post:=[(P,.obs P (tabObj pst) ost),(Pr,d')])
    (.head _) (fun _ => Iff.rfl) (fun _ => Iff.rfl) n2 n1
   refine @hQ _ _ pst ost s' ⟨.inl hOP,fun e => nP e.symm⟩ hTb (fun b m => ⟨.inl m,fun z => hLa (z ▸ hown b m)⟩) (fun b m => ⟨.inl m,fun z => hLa (z ▸ m)⟩) (S2.sub ?g4)
   case g4 => k_extra "sub"
noncomputable def Wl (p n : Nat) : List Str:=(List.range 4).map fun k => if ZA n k then zn ++ (zo p).getD k eS ++ xX else v8
noncomputable def k8 (p n : Nat) : Str:=wv eS (Wl p n)
noncomputable abbrev vX (p : Nat) : Str × RV:=(ofString "wants",.dat (yB (k8 p)))
theorem QN : ∀ p : Fin 10,∀ n : Fin 16,yG eS (Wl p n) = true:=by decide +kernel
theorem Zx : ∀ p : Fin 10,∀ k : Fin 4,decide (((zo p).getD k eS).length ≤ 100) = true:=by decide +kernel
theorem Yi {l : List Str} {n : Nat} (h : n < l.length) : (l.map D.str)[((n : Nat) : Int).toNat]? = some (.str (l.getD n eS)):=by
 rw [toNat_natCast,getElem?_map,getD_eq_getElem?_getD,getElem?_eq_getElem h]
 rfl
theorem zAc (H : yt prog w B mg mb C N mN) (R : Rm A 3) {p : Nat} {sums : List Int} {dr : List Nat} (Fp : xV p) {pg : List (Nat × Nat)}
  (S : St prog w B s₀ Own₀ M₀ zK env Own M [vG pg,vD dr,vM p,vW p,vR sums] μ s)
  (hQ : ∀ s',St prog w B s₀ Own₀ M₀ zK env Own M [vX p,vG pg,vD dr,vM p,vW p,vR sums] μ s' → wpAny (model prog w) A (execs ((zB zv).drop 13) env) Q E s') :
  wpAny (model prog w) A (execs ((zB zv).drop 12) env) Q E s:=by
 have R0 : Rm A 0:=R.le (zero_le _)
 have G:=H.le.hdr.G
 have hr:=H.le.range
 have hp10:=Fp.lt
 show wpAny _ _ (execs (_ :: (zB zv).drop 13) env) _ _ _
 refine' xw S ?c1 R0 ?c2 (dsrc:=.rng 0 (16 : Nat) 1) ?c3 (List.range 16) (fun n : Nat => .int n) (zj.nat (by decide)) (fun n => .str (k8 p n)) ?c4 ?c5 ?c6 ?c7 ?c8
 case c1 | c2 => k_extra "kd"
 case c3 => k_extra "z"
 case c4 => k_extra "kd"
 case c5 => rw [length_range,sizeLine_eq]; decide
 case c6 => k_extra "fs"
 case c8 => exact fun s' S' => @hQ s' (S'.sub (by k_extra "sub"))
 case c7 =>
  intro n hn env' h' M' kx hE
  have hn:=mem_range.mp hn
  have hf1:=QN ⟨p,hp10⟩ ⟨n,hn⟩
  refine' Ev.meth (T := "str") hE R0 ?qo rfl F.plainAttrs_str F.slot_str_join F.type_str_join (yy.cons (Ev.rd (Ev.cast (Ev.comp1 hE R0 ?y1 (dsrc:=.rng 0 (4 : Nat) 1) ?y2 (List.range 4) (fun n : Nat => .int n) (zj.nat (by decide)) (fun k => .str (if ZA n k then zn ++ (zo p).getD k eS ++ xX else v8)) ?y3 ?y4 ?y5 ?y6) ?y7)) .nil fun _ => rfl) rfl (by decide) rfl (zG.join eS (Wl p n) hf1)
  clear hf1
  case qo => k_extra "z"
  case y1 => k_extra "kd"
  case y2 => k_extra "z"
  case y3 => k_extra "kd"
  case y4 => rw [length_range,sizeLine_eq]; decide
  case y5 => k_extra "fs"
  case y7 => unfold Wl; rw [map_map]; rfl
  case y6 =>
   clear hE
   intro k hk env'' h'' M'' kx' hE
   have hk:=mem_range.mp hk
   have hw:=Zx ⟨p,hp10⟩ ⟨k,hk⟩
   rw [decide_eq_true_eq] at hw
   refine' Ev.cast (Ev.ifExp (d:=.str (zn ++ (zo p).getD k eS ++ xX)) (e:=.str v8) (b:=ZA n k) ?t1 (fun _ => ?t2) (fun _ => ?t3)) ?t4
   case t1 =>
    refine' Tv.plain (Ev.rd (Ev.bin (da:=.int ((n : Int).fdiv (2 ^ k))) (db:=.int 1) hE (Ev.rd (Ev.bin (da:=.int n) (db:=.int k) hE ?u1 ?u2 (yC.shr _ _ ?u3))) ?u4 (yC.and _ _))) (ym.int _) rfl
    case u1 | u2 => k_extra "z"
    case u3 => k_extra "o"
    case u4 => k_extra "z"
   case t3 => k_extra "z"
   case t4 => cases ZA n k <;> rfl
   case t2 =>
    refine' Ev.bin (da:=.str (zn ++ (zo p).getD k eS)) (db:=.str xX) hE (Ev.rd (Ev.bin (da:=.str zn) (db:=.str ((zo p).getD k eS)) hE ?d1 (Ev.rd ?d2) (yC.addS _ _ ?d3))) ?d4 (yC.addS _ _ ?d5)
    case d1 | d4 => k_extra "z"
    case d3 => rw [sizeLine_eq,show zn.length = 1 from rfl]; dsimp only at hw; k_extra "o"
    case d5 => rw [sizeLine_eq,Str.length_append,show zn.length = 1 from rfl,show xX.length = 1 from rfl]; dsimp only at hw; k_extra "o"
    case d2 =>
     refine' Ev.item (xs:=(zo p).map .str) (i:=(k : Int)) ?v1 ?v2 (by k_extra "o") (by k_extra "o") (Yi (by rw [Fp.len]; exact hk))
     case v1 | v2 => k_extra "z"
noncomputable def jk (s sub : Str) (hi limit : Nat) (r : Array Nat × Nat) (i : Nat) : Array Nat × Nat :=
 if (decide (r.1.size < limit) && decide (r.2 ≤ i) && decide (i + sub.length ≤ hi) && Builtin.Str.subAt s sub i) = true then (r.1.push i,i + sub.length) else r
theorem Yj (s sub : Str) (hi limit : Nat) (acc : Array Nat) (free i : Nat) : jk s sub hi limit (acc,free) i = if (decide (acc.size < limit) && decide (free ≤ i) && decide (i + sub.length ≤ hi) && Builtin.Str.subAt s sub i) = true then (acc.push i,i + sub.length) else (acc,free):=rfl
theorem zAR (s sub : Str) (lo hi limit : Nat) : Builtin.Str.occurrences s sub lo hi limit = ((range' lo (hi + 1 - lo)).foldl (jk s sub hi limit) (#[],lo)).1.toList:=by
 unfold Builtin.Str.occurrences
 have e : ∀ (l : List Nat) (r : Array Nat × Nat),(forIn l r (fun i r => if (decide (r.1.size < limit) && decide (r.2 ≤ i) && decide (i + sub.length ≤ hi) && Builtin.Str.subAt s sub i) = true then pure (ForInStep.yield (r.1.push i,i + sub.length)) else pure (ForInStep.yield (r.1,r.2))) : Id (Array Nat × Nat)) = l.foldl (jk s sub hi limit) r:=by
  intro l
  induction l with
  | nil => intro r; rfl
  | cons i l ih =>
   intro r
   rw [forIn_cons,foldl_cons]
   unfold jk
   by_cases hc : (decide (r.1.size < limit) && decide (r.2 ≤ i) && decide (i + sub.length ≤ hi) && Builtin.Str.subAt s sub i) = true
   · rw [if_pos hc,if_pos hc]; exact ih _
   · rw [if_neg hc,if_neg hc]; exact ih _
 dsimp only
 rw [_root_.Std.Legacy.Range.forIn_eq_forIn_range']
 show toList (Prod.fst (forIn _ _ _ : Id _)) = _
 rw [e]
 congr 4
 show (hi + 1 - lo + 1 - 1) / 1 = _
 simp
noncomputable def wD (sub : List Nat) (m hi limit : Nat) : Nat → List Nat → Nat → Nat → List Nat
 | i,[],n,free => if (decide (n < limit) && decide (free ≤ i) && decide (i + m ≤ hi) && sub.isPrefixOf []) = true then [i] else []
 | i,c :: rest,n,free => if (decide (n < limit) && decide (free ≤ i) && decide (i + m ≤ hi) && sub.isPrefixOf (c :: rest)) = true then i :: wD sub m hi limit (i + 1) rest (n + 1) (i + m) else wD sub m hi limit (i + 1) rest n free
theorem Wv (sub : List Nat) (m hi limit i n free : Nat) : wD sub m hi limit i [] n free = (if (decide (n < limit) && decide (free ≤ i) && decide (i + m ≤ hi) && sub.isPrefixOf []) = true then [i] else []):=rfl
theorem W4 (sub : List Nat) (m hi limit i c : Nat) (rest : List Nat) (n free : Nat) : wD sub m hi limit i (c :: rest) n free = (if (decide (n < limit) && decide (free ≤ i) && decide (i + m ≤ hi) && sub.isPrefixOf (c :: rest)) = true then i :: wD sub m hi limit (i + 1) rest (n + 1) (i + m) else wD sub m hi limit (i + 1) rest n free):=rfl
theorem wZ (s sub : Str) (i : Nat) (h : i + sub.length ≤ s.length) : Builtin.Str.subAt s sub i = sub.cps.toList.isPrefixOf (s.cps.toList.drop i):=by
 unfold Builtin.Str.subAt
 have hl : sub.length = sub.cps.toList.length:=by simp [Str.length]
 have hs : s.length = s.cps.toList.length:=by simp [Str.length]
 have e : (s.cps.extract i (i + sub.length)).toList = (s.cps.toList.drop i).take sub.cps.toList.length:=by
   rw [Array.toList_extract,hl]
   simp [List.extract]
 rw [Bool.eq_iff_iff,beq_iff_eq,List.isPrefixOf_iff_prefix]
 constructor
 · intro q
   have q2:=congrArg toList q
   rw [e] at q2
   rw [← q2]
   exact List.take_prefix _ _
 · intro q
   apply ext'
   rw [e]
   exact (List.prefix_iff_eq_take.mp q).symm
theorem qm (s sub : Str) (hi limit : Nat) (hh : hi ≤ s.length) : ∀ (rest : List Nat) (i n : Nat) (acc : Array Nat) (free : Nat),s.cps.toList.drop i = rest → i ≤ s.length → acc.size = n →
  ((range' i (rest.length + 1)).foldl (jk s sub hi limit) (acc,free)).1.toList = acc.toList ++ wD sub.cps.toList sub.length hi limit i rest n free
 | [],i,n,acc,free,hr,hi',hn => by
  rw [show ([] : List Nat).length + 1 = 1 from rfl,List.range'_one,foldl_cons,List.foldl_nil]
  rw [Yj,Wv]
  by_cases hc : i + sub.length ≤ hi
  · rw [wZ s sub i (by omega),hr,hn]
    split <;> simp
  · simp [hc]
 | c :: rest,i,n,acc,free,hr,hi',hn => by
  have hlt : i < s.length:=by
    have:=congrArg length hr
    rw [List.length_drop,length_cons] at this
    have hs : s.length = s.cps.toList.length:=by simp [Str.length]
    omega
  have hr' : s.cps.toList.drop (i + 1) = rest:=by rw [← List.drop_drop,hr]; rfl
  rw [length_cons,List.range'_succ,foldl_cons,W4,Yj]
  by_cases hc : i + sub.length ≤ hi
  · rw [wZ s sub i (by omega),hr,hn]
    split
    · rw [qm s sub hi limit hh rest (i + 1) (n + 1) _ _ hr' (by omega) (by rw [size_push,hn])]
      simp
    · exact qm s sub hi limit hh rest (i + 1) n _ _ hr' (by omega) hn
  · have h1 : (decide (acc.size < limit) && decide (free ≤ i) && decide (i + sub.length ≤ hi) && Builtin.Str.subAt s sub i) = false:=by simp [hc]
    have h2 : (decide (n < limit) && decide (free ≤ i) && decide (i + sub.length ≤ hi) && sub.cps.toList.isPrefixOf (c :: rest)) = false:=by simp [hc]
    rw [h1,h2,if_neg (by decide),if_neg (by decide)]
    exact qm s sub hi limit hh rest (i + 1) n _ _ hr' (by omega) hn
theorem jd (s sub : Str) (hi limit : Nat) : ∀ (l : List Nat) (r : Array Nat × Nat),(∀ i ∈ l,hi < i) → l.foldl (jk s sub hi limit) r = r
 | [],_,_ => rfl
 | i :: l,r,h => by
  rw [foldl_cons]
  have : jk s sub hi limit r i = r:=by
   unfold jk
   have:=h i (.head _)
   rw [if_neg]
   simp; intros; omega
  rw [this]
  exact jd s sub hi limit l r fun j hj => h j (.tail _ hj)
theorem kg (s sub : Str) (lo hi limit : Nat) (hh : hi ≤ s.length) (hl : lo ≤ s.length) : Builtin.Str.occurrences s sub lo hi limit = wD sub.cps.toList sub.length hi limit lo (s.cps.toList.drop lo) 0 lo:=by
 rw [zAR]
 have h:=qm s sub hi limit hh (s.cps.toList.drop lo) lo 0 #[] lo rfl hl rfl
 rw [nil_append] at h
 rw [← h]
 have hs : s.length = s.cps.toList.length:=by simp [Str.length]
 rw [List.length_drop,← hs]
 have e : range' lo (s.length - lo + 1) = range' lo (hi + 1 - lo) ++ range' (lo + (hi + 1 - lo)) (s.length - lo + 1 - (hi + 1 - lo)):=by
  rw [List.range'_append_1]
  congr 1
  exact (Nat.add_sub_of_le (le_trans (Nat.sub_le_sub_right (succ_le_succ hh) lo) (le_of_eq (succ_sub hl)))).symm
 rw [e,foldl_append,jd s sub hi limit (range' (lo + (hi + 1 - lo)) _)]
 intro i hi2
 rw [List.mem_range'_1] at hi2
 omega
noncomputable def XD (got w : List Nat) (st en : Nat) : Option Nat:=(wD w w.length en 1 st (got.drop st) 0 st).head?
noncomputable def W0 (got : List Nat) : List (List Nat) → Nat → Nat → Bool
 | [],_,_ => true
 | w :: ws,st,en => match XD got w st en with
  | none => false
  | some p => W0 got ws (p + w.length) en
noncomputable def W9 (got : List Nat) (ws : List (List Nat)) (st en : Nat) : Bool:=if en < st then false else W0 got ws st en
noncomputable def Jn (got : List Nat) (ws : List (List Nat)) (st : Nat) : Bool :=
 if (ws.getLastD []).length ≠ 0 then (if (decide ((ws.getLastD []).length ≤ got.length) && (ws.getLastD []).isPrefixOf (got.drop (got.length - (ws.getLastD []).length))) = true then W9 got ws.dropLast st (got.length - (ws.getLastD []).length) else false) else W9 got ws st got.length
noncomputable def zAh (ws : List (List Nat)) (got : List Nat) : Bool :=
 if (ws.headD []).length ≠ 0 then (if (decide ((ws.headD []).length ≤ got.length) && (ws.headD []).isPrefixOf got) = true then Jn got ws.tail (ws.headD []).length else false) else Jn got ws 0
noncomputable abbrev yD (x : Str) : List Nat:=x.cps.toList
theorem yA (x : Str) : (yD x).length = x.length:=by simp [yD,Str.length]
theorem jF (sub : List Nat) (m hi limit : Nat) : ∀ (rest : List Nat) (i n free : Nat),∀ x ∈ wD sub m hi limit i rest n free,x + m ≤ hi
 | [],i,n,free => by
  intro x hx
  rw [Wv] at hx
  split at hx
  · rename_i h
    simp only [and_eq_true,decide_eq_true_eq] at h
    rw [mem_singleton.mp hx]; exact h.1.2
  · cases hx
 | c :: rest,i,n,free => by
  intro x hx
  rw [W4] at hx
  split at hx
  · rename_i h
    simp only [and_eq_true,decide_eq_true_eq] at h
    rcases mem_cons.mp hx with e | hx
    · rw [e]; exact h.1.2
    · exact jF sub m hi limit rest _ _ _ x hx
  · exact jF sub m hi limit rest _ _ _ x hx
theorem VV (got w : Str) (st en : Nat) (h1 : st ≤ en) (h2 : en ≤ got.length) : kA got w (st : Int) (en : Int) = match XD (yD got) (yD w) st en with | some p => (p : Int) | none => -1:=by
 unfold kA XD
 have e1 : (max 0 (if (st : Int) < 0 then (st : Int) + got.length else (st : Int))).toNat = st:=by rw [if_neg (Vy st),zAS,toNat_natCast]
 have e2 : (min (max 0 (if (en : Int) < 0 then (en : Int) + got.length else (en : Int))).toNat got.length) = en:=by rw [if_neg (Vy en),zAS,toNat_natCast,min_eq_left h2]
 rw [e1,e2,kg got w st en 1 h2 (le_trans h1 h2),yA]
 cases wD w.cps.toList w.length en 1 st (got.cps.toList.drop st) 0 st <;> rfl
theorem Zu (got : Str) : ∀ (ws : List Str) (st en : Nat),st ≤ en → en ≤ got.length → xF got ws (st : Int) (en : Int) = W0 (yD got) (ws.map yD) st en
 | [],_,_,_,_ => rfl
 | w :: ws,st,en,h1,h2 => by
  rw [map_cons,xF,W0,VV got w st en h1 h2]
  cases hf : XD (yD got) (yD w) st en with
  | none => rfl
  | some p =>
   have hp0 : ¬ ((p : Int) < 0):=not_lt.mpr (natCast_nonneg p)
   show (if ((p : Int) < 0) then false else xF got ws ((p : Int) + w.length) en) = _
   rw [if_neg hp0]
   have hp : p + w.length ≤ en:=by
    unfold XD at hf
    have:=jF _ _ _ _ _ _ _ _ p (List.mem_of_mem_head? hf)
    rw [yA] at this
    exact this
   rw [yA]
   exact Zu got ws (p + w.length) en hp h2
theorem ZR (got : Str) (ws : List Str) (st en : Nat) (h2 : en ≤ got.length) : yh got ws (st : Int) (en : Int) = W9 (yD got) (ws.map yD) st en:=by
 unfold yh W9
 by_cases h : en < st
 · rw [if_pos h,if_pos (by omega)]
 · rw [if_neg h,if_neg (by omega)]
   exact Zu got ws st en (by omega) h2
theorem Vs (ws : List Str) : (ws.map yD).headD [] = yD (ws.headD empty):=by cases ws <;> rfl
theorem VX (ws : List Str) : (ws.map yD).getLastD [] = yD (ws.getLastD empty):=by
 cases ws with
 | nil => rfl
 | cons w ws =>
  rw [map_cons,List.getLastD_cons,List.getLastD_cons]
  induction ws generalizing w with
  | nil => rfl
  | cons v ws ih => rw [map_cons,List.getLastD_cons,List.getLastD_cons]; exact ih v
theorem Ys (got : Str) (ws : List Str) (st : Nat) : xD got ws (st : Int) = Jn (yD got) (ws.map yD) st:=by
 unfold xD Jn
 rw [VX,yA,yA]
 dsimp only
 generalize ws.getLastD empty = w
 by_cases h : w.length ≠ 0
 · rw [if_pos h,if_pos h]
   by_cases hl : w.length ≤ got.length
   · rw [wZ got w (got.length - w.length) (by omega),zero_add]
     split
     · rw [← List.map_dropLast]
       have e : ((got.length : Int) - (w.length : Int)) = ((got.length - w.length : Nat) : Int):=(Int.ofNat_sub hl).symm
       rw [e]
       exact ZR got _ st _ (by omega)
     · rfl
   · have a1 : (decide (0 + w.length ≤ got.length) && Builtin.Str.subAt got w (got.length - w.length)) = false:=by rw [zero_add]; simp [hl]
     have a2 : (decide (w.length ≤ got.length) && (yD w).isPrefixOf ((yD got).drop (got.length - w.length))) = false:=by simp [hl]
     rw [a1,a2]; rfl
 · rw [if_neg h,if_neg h]
   exact ZR got ws st _ (le_refl _)
theorem JT {want got : Str} (hi : inS zX want = true) : v6 want got = zAh ((zz want zX).map yD) (yD got):=by
 unfold v6 zAh
 rw [if_pos hi,Vs,yA,yA]
 dsimp only
 generalize zz want zX = ws
 generalize hw : ws.headD empty = w
 by_cases h : w.length ≠ 0
 · rw [if_pos h,if_pos h]
   by_cases hl : w.length ≤ got.length
   · rw [wZ got w 0 (by omega),zero_add,drop_zero]
     split
     · rw [← List.map_tail]
       exact Ys got _ _
     · rfl
   · have a1 : (decide (0 + w.length ≤ got.length) && Builtin.Str.subAt got w 0) = false:=by rw [zero_add]; simp [hl]
     have a2 : (decide (w.length ≤ got.length) && (yD w).isPrefixOf (yD got)) = false:=by simp [hl]
     rw [a1,a2]; rfl
 · rw [if_neg h,if_neg h]
   exact Ys got ws 0
noncomputable def Yr (x y : List Nat) : List Nat:=wD y y.length x.length (x.length + 1) 0 x 0 0
noncomputable def jR (x y : List Nat) : List (List Nat) :=
 if (Yr x y).isEmpty = true then [x] else ((0 :: (Yr x y).map (· + y.length)).zip ((Yr x y) ++ [x.length])).map fun p => (x.drop p.1).take (p.2 - p.1)
theorem VD (want : Str) : inS zX want = !(wD (yD zX) 3 (yD want).length 1 0 (yD want) 0 0).isEmpty:=by
 unfold inS
 rw [kg want zX 0 want.length 1 (le_refl _) (zero_le _),yA]
 rfl
theorem Jx (x : Str) : ¬ Builtin.Str.strKind x < Builtin.Str.strKind zX:=by
 have : Builtin.Str.strKind zX = 1:=by decide +kernel
 rw [this]
 unfold Builtin.Str.strKind
 split
 · decide
 · split <;> decide
theorem j3 (x : Str) : (zz x zX).map yD = jR (yD x) (yD zX):=by
 have ho : Builtin.Str.occurrences x zX 0 x.length (x.length + 1) = Yr (yD x) (yD zX):=by
   rw [kg x zX 0 x.length _ (le_refl _) (zero_le _)]
   unfold Yr
   rw [yA,yA]; rfl
 unfold zz jR
 rw [ho]
 by_cases h1 : (decide (x.length < zX.length) || decide (Builtin.Str.strKind x < Builtin.Str.strKind zX)) = true
 · rw [if_pos h1]
   have hlt : x.length < zX.length:=by
     rw [decide_eq_false (Jx x),Bool.or_false,decide_eq_true_eq] at h1
     exact h1
   have : Yr (yD x) (yD zX) = []:=by
     cases hq : Yr (yD x) (yD zX) with
     | nil => rfl
     | cons a l =>
      unfold Yr at hq
      have:=jF _ _ _ _ _ _ _ _ a (by rw [hq]; exact .head _)
      rw [yA,yA] at this
      omega
   rw [this]; rfl
 · rw [if_neg h1]
   split
   · rfl
   · unfold Builtin.Str.partsBetween
     rw [map_map,yA,yA]
     refine map_congr_left fun p _ => ?_
     obtain ⟨i,j⟩:=p
     show (x.cps.extract i j).toList = _
     rw [Array.toList_extract]
noncomputable def qj (want : Str) : Bool:=decide (want.length ≤ 1000) && (decide (2 ≤ (zz want zX).length) || !inS zX want) && decide ((zz want zX).length ≤ 1000) && (zz want zX).all fun x => decide (x.length ≤ 1000)
theorem xm {want got : Str} (h : qj want = true) (hg : got.length ≤ 1000) : xb want got = true:=by
 simp only [qj,and_eq_true] at h
 simp only [xb,and_eq_true,decide_eq_true_eq]
 obtain ⟨⟨⟨h1,h2⟩,h3⟩,h4⟩:=h
 exact ⟨⟨⟨⟨of_decide_eq_true h1,hg⟩,h2⟩,of_decide_eq_true h3⟩,h4⟩
theorem ZX {p n : Nat} (Fp : xV p) (hn : n < 16) : (ye p n).length ≤ 1000:=by
 have hs:=Fp.short n hn
 unfold ye
 rw [Str.length_append,Str.length_append,show zn.length = 1 from rfl,show xX.length = 1 from rfl]
 k_extra "o"
noncomputable def jr : List Nat:=[46,46,46]
theorem wn : yD zX = jr:=by decide +kernel
theorem Xf : yD v8 = jr:=by decide +kernel
theorem yP (x y : Str) : yD (x ++ y) = yD x ++ yD y:=by show (x.cps ++ y.cps).toList = _; rw [toList_append]
theorem qW {x y : Str} (h : yD x = yD y) : x = y:=by
 cases x; cases y; congr 1; exact ext' h
noncomputable def inF (want : List Nat) : Bool:=!(wD jr 3 want.length 1 0 want 0 0).isEmpty
noncomputable def WM (want got : List Nat) : Bool:=if inF want = true then zAh (jR want jr) got else decide (want = got)
theorem Xe (want got : Str) : v6 want got = WM (yD want) (yD got):=by
 have hi:=VD want
 rw [wn] at hi
 unfold WM inF
 rw [← hi]
 by_cases h : inS zX want = true
 · rw [if_pos h,JT h,j3,wn]
 · rw [if_neg h]
   unfold v6
   rw [if_neg h]
   by_cases q : want = got
   · subst q; simp
   · rw [beq_eq_false_iff_ne.mpr q,decide_eq_false fun e => q (qW e)]
noncomputable def xk (want : List Nat) : Bool:=decide (want.length ≤ 1000) && (decide (2 ≤ (jR want jr).length) || !inF want) && decide ((jR want jr).length ≤ 1000) && (jR want jr).all fun x => decide (x.length ≤ 1000)
theorem wX (want : Str) : qj want = xk (yD want):=by
 have hi:=VD want
 rw [wn] at hi
 unfold qj xk inF
 rw [← hi,← wn,← j3,length_map,List.all_map,yA]
 simp only [Function.comp_def,yA]
noncomputable def K5 : List (List Nat):=[[79,80,84,73,77,73,90,69,68],[78,69,87,76,79,67,65,76,83],[86,65,82,65,82,71,83],[86,65,82,75,69,89,87,79,82,68,83],[78,69,83,84,69,68],[71,69,78,69,82,65,84,79,82],[78,79,70,82,69,69],[67,79,82,79,85,84,73,78,69],[73,84,69,82,65,66,76,69,95,67,79,82,79,85,84,73,78,69],[65,83,89,78,67,95,71,69,78,69,82,65,84,79,82],[48,120,52,48,48],[48,120,56,48,48],[48,120,49,48,48,48]]
theorem QU : xM.map yD = K5:=by decide +kernel
noncomputable def ZY (p k : Nat) : List Nat:=(K5.drop p).getD k []
noncomputable def wG (p n : Nat) : List Nat:=if n = 0 then [32,48,120,48,44] else (((List.range 4).filter fun k => n.testBit k).map fun k => 32 :: (ZY p k ++ [44])).flatten
noncomputable def VN (p n : Nat) : List Nat:=((List.range 4).map fun k => if n.testBit k then 32 :: (ZY p k ++ [44]) else jr).flatten
theorem QA : ∀ p : Fin 10,∀ n : Fin 16,decide (yD (ye p n) = wG p n) = true:=by decide +kernel
theorem QO : ∀ p : Fin 10,∀ n : Fin 16,decide (yD (k8 p n) = VN p n) = true:=by decide +kernel
theorem xr {p n : Nat} (hp : p < 10) (hn : n < 16) : yD (ye p n) = wG p n:=of_decide_eq_true (QA ⟨p,hp⟩ ⟨n,hn⟩)
theorem Y1 {p n : Nat} (hp : p < 10) (hn : n < 16) : yD (k8 p n) = VN p n:=of_decide_eq_true (QO ⟨p,hp⟩ ⟨n,hn⟩)
theorem Yq {p k : Nat} (hk : k < 4) : yD ((zo p).getD k eS) = ZY p k:=by
 unfold ZY zo
 rw [← QU,← map_drop]
 rw [getD_eq_getElem?_getD,getD_eq_getElem?_getD,List.getElem?_take_of_lt hk,getElem?_map]
 cases (List.drop p xM)[k]? with
 | none => show yD eS = []; decide +kernel
 | some x => rfl
noncomputable def qJ (c : Nat) : Nat:=if 65 ≤ c ∧ c ≤ 90 then c + 32 else c
noncomputable def Za (c : Nat) : Nat:=if 65 ≤ c ∧ c ≤ 90 then c + 32 else if 97 ≤ c ∧ c ≤ 122 then c - 32 else c
theorem Wz : ∀ c : Fin 128,(Unicode.lowerOf c.val == [qJ c.val] && (if Unicode.isUpper c.val then Unicode.lowerOf c.val else if Unicode.isLower c.val then Unicode.upperOf c.val else [c.val]) == [Za c.val]) = true:=by decide +kernel
theorem v9 {a : Array Nat} {i c : Nat} (h : a[i]? = some c) (hc : c < 128) : Unicode.lowerAt a i = Unicode.lowerOf c:=by
 unfold Unicode.lowerAt
 rw [h]
 dsimp only
 rw [show (c == 0x3A3) = false from beq_eq_false_iff_ne.mpr (by omega)]
 rfl
theorem qP (x : Str) (f : Nat → Nat → List Nat) (g : Nat → Nat) (h : ∀ i c,x.cps[i]? = some c → f i c = [g c]) : yD ⟨placed x f⟩ = (yD x).map g:=by
 have e : (x.cps.mapIdx fun i c => (f i c).toArray) = x.cps.map fun c => #[g c]:=by
  refine Array.ext (by simp) fun i h1 h2 => ?_
  simp only [Array.size_mapIdx] at h1
  rw [Array.getElem_mapIdx,Array.getElem_map,h i _ (Array.getElem?_eq_getElem h1)]
 show (Array.flatten _).toList = _
 rw [e,Array.toList_flatten,Array.toList_map,map_map]
 show ((yD x).map fun c => [g c]).flatten = _
 induction yD x with
 | nil => rfl
 | cons c l ih => rw [map_cons,map_cons,List.flatten_cons,ih]; rfl
noncomputable def yn (l : List Nat) : Bool:=l.all fun c => decide (c < 128)
theorem XV {x : Str} (h : yn (yD x) = true) {i c : Nat} (e : x.cps[i]? = some c) : c < 128:=by
 have:=all_eq_true.mp h c (Array.mem_toList_iff.mpr (Array.mem_of_getElem? e))
 exact of_decide_eq_true this
theorem yl {x : Str} (h : yn (yD x) = true) : yD (zb x) = (yD x).map qJ :=
 qP x _ _ fun i c e => by
  have hc:=XV h e
  have:=Wz ⟨c,hc⟩
  simp only [and_eq_true,beq_iff_eq] at this
  rw [v9 e hc,this.1]
theorem ky {x : Str} (h : yn (yD x) = true) : yD (ww x) = (yD x).map Za :=
 qP x _ _ fun i c e => by
  have hc:=XV h e
  have:=Wz ⟨c,hc⟩
  simp only [and_eq_true,beq_iff_eq] at this
  rw [v9 e hc,this.2]
theorem kj {c : Nat} (h : c < 128) : qJ c < 128:=by unfold qJ; split <;> omega
theorem Yx {c : Nat} (h : c < 128) : Za c < 128:=by unfold Za; split <;> (try split) <;> omega
theorem VW (c : Nat) : qJ (Za c) = qJ c:=by
 unfold qJ Za
 by_cases h1 : 65 ≤ c ∧ c ≤ 90
 · rw [if_pos h1,if_neg (by omega),if_pos h1]
 · simp only [if_neg h1]
   by_cases h2 : 97 ≤ c ∧ c ≤ 122
   · rw [if_pos h2,if_pos (by omega)]; exact Nat.sub_add_cancel (le_trans (by decide) h2.1)
   · rw [if_neg h2,if_neg h1]
theorem Qk (c : Nat) : qJ (qJ c) = qJ c:=by
 unfold qJ
 by_cases h1 : 65 ≤ c ∧ c ≤ 90
 · rw [if_pos h1,if_neg (by omega)]
 · rw [if_neg h1,if_neg h1]
theorem jU {l : List Nat} {g : Nat → Nat} (hg : ∀ c,c < 128 → g c < 128) (h : yn l = true) : yn (l.map g) = true:=by
 unfold yn at *
 rw [List.all_map,all_eq_true]
 intro c hc
 exact decide_eq_true (hg c (of_decide_eq_true (all_eq_true.mp h c hc)))
theorem jm {x : Str} (h : yn (yD x) = true) : zb (zb x) = zb x:=by
 refine qW ?_
 rw [yl (by rw [yl h]; exact jU (fun _ => kj) h),yl h,map_map]
 exact map_congr_left fun c _ => Qk c
theorem wk {x : Str} (h : yn (yD x) = true) : zb (ww x) = zb x:=by
 refine qW ?_
 rw [yl (by rw [ky h]; exact jU (fun _ => Yx) h),ky h,yl h,map_map]
 exact map_congr_left fun c _ => VW c
theorem wj {x : Str} (h : yn (yD x) = true) : (zb x).cps.size = x.cps.size:=by
 have:=congrArg length (yl h)
 rw [length_map] at this
 simpa [yD] using this
theorem QH {x : Str} (h : yn (yD x) = true) : (ww x).cps.size = x.cps.size:=by
 have:=congrArg length (ky h)
 rw [length_map] at this
 simpa [yD] using this
theorem Zo (p r : Nat) : KS (zU p) r = ye p r:=rfl
theorem zA6 : ∀ p : Fin 10,∀ n r : Fin 16,(WM (VN p n) (wG p r) == qZ r n) = true:=by decide +kernel
theorem zAk : ∀ p : Fin 10,∀ n : Fin 16,(xk (VN p n)) = true:=by decide +kernel
theorem zAp {p : Nat} (Fp : xV p) : Zv (zU p) (k8 p) where
 ell:=fun n r hn hr => by
  have h:=zA6 ⟨p,Fp.lt⟩ ⟨n,hn⟩ ⟨r,hr⟩
  rw [beq_iff_eq] at h
  rw [Zo,Xe,Y1 Fp.lt hn,xr Fp.lt hr]; exact h
 fit:=fun n r hn hr => by
  have h:=zAk ⟨p,Fp.lt⟩ ⟨n,hn⟩
  rw [Zo]
  exact xm (by rw [wX,Y1 Fp.lt hn]; exact h) (ZX Fp hr)
 len:=fun r hr => le_trans (Fp.short r hr) (by decide)
noncomputable def qA (p n : Nat) : List Nat:=((wG p n).drop 1).dropLast
noncomputable abbrev ofF (l : List Nat) : Str:=⟨l.toArray⟩
theorem Yo {p n : Nat} (hp : p < 10) (hn : n < 16) : zU p n = ofF (qA p n):=by
 refine qW ?_
 have h:=xr hp hn
 unfold ye at h
 rw [yP,yP] at h
 unfold qA
 rw [← h,show yD zn = [32] from rfl,show yD xX = [44] from rfl]
 simp [yD]
theorem Kf : ∀ p : Fin 10,∀ r : Fin 16,(yn (qA p r) && zg za (ofF (qA p r)) && zg za (ofF ((qA p r).map qJ)) && zg zm (ofF (qA p r)) && yG jc [ofF (qA p r)]) = true:=by decide +kernel
theorem zAg : ∀ p : Fin 10,∀ i j : Fin 16,(!decide ((qA p i).map qJ = (qA p j).map qJ) || decide (i = j)) = true:=by decide +kernel
theorem y9 {n : Nat} (h : n ≤ 100) : (!Builtin.Str.tooLong n) = true ∧ n < 2 ^ 63:=by
 have H : ∀ n : Fin 101,(!Builtin.Str.tooLong n.val) = true:=by decide +kernel
 exact ⟨H ⟨n,by omega⟩,by omega⟩
structure JS (nm : Nat → Str) : Prop where
 hd : Yk nm
 ascii : ∀ r,r < 16 → yn (yD (nm r)) = true
 lone : ∀ i j,i < 16 → j < 16 → zb (nm i) = zb (nm j) → i = j
 low2 : ∀ r,r < 16 → xE (zb (nm r)) = true
 low3 : ∀ r,r < 16 → xE (ww (nm r)) = true ∧ Builtin.Str.tooLong (ww (nm r)).cps.size = false
theorem WL {p : Nat} (Fp : xV p) : JS (zU p):=by
 have hp:=Fp.lt
 have h:=fun r (hr : r < 16) => Kf ⟨p,hp⟩ ⟨r,hr⟩
 simp only [and_eq_true] at h
 have ha : ∀ r,r < 16 → yn (yD (zU p r)) = true:=fun r hr => by rw [Yo hp hr]; exact (h r hr).1.1.1.1
 have hl : ∀ r,r < 16 → zb (zU p r) = ofF ((qA p r).map qJ):=fun r hr => by
   refine qW ?_
   rw [yl (ha r hr),Yo hp hr]
 have hz : ∀ r,r < 16 → (zU p r).cps.size ≤ 100:=Fp.short
 have lone : ∀ i j,i < 16 → j < 16 → zb (zU p i) = zb (zU p j) → i = j:=fun i j hi hj e => by
   have q:=zAg ⟨p,hp⟩ ⟨i,hi⟩ ⟨j,hj⟩
   rw [hl i hi,hl j hj] at e
   have e:=congrArg yD e
   dsimp only [yD] at e
   simp only [e,decide_true,Bool.not_true,Bool.false_or,decide_eq_true_eq,Fin.mk.injEq] at q
   exact q
 refine ⟨⟨fun i j hi hj e => lone i j hi hj (congrArg zb e),fun r hr => ?_,fun r hr => ⟨?_, ?_⟩,fun r hr => ⟨?_, ?_⟩,fun r hr => ⟨?_, ?_⟩⟩,ha,lone,fun r hr => ?_,fun r hr => ⟨?_, ?_⟩⟩
 · unfold xE; rw [wj (ha r hr)]; exact (y9 (hz r hr)).1
 · rw [Yo hp hr]; exact (h r hr).1.1.1.2
 · exact (y9 (hz r hr)).2
 · rw [hl r hr]; exact (h r hr).1.1.2
 · rw [wj (ha r hr)]; exact (y9 (hz r hr)).2
 · rw [Yo hp hr]; exact (h r hr).1.2
 · rw [Yo hp hr]; exact (h r hr).2
 · unfold xE; rw [jm (ha r hr),wj (ha r hr)]; exact (y9 (hz r hr)).1
 · unfold xE; rw [wk (ha r hr),wj (ha r hr)]; exact (y9 (hz r hr)).1
 · rw [QH (ha r hr)]; simpa using (y9 (hz r hr)).1
theorem QR {p : Nat} (Fp : xV p) : Yk (zU p):=(WL Fp).hd
structure vk (B : Heap) (mg : Str → Option Value) (Pr : Addr) : Prop where
 fn : ∃ f fd,mg (ofString "_law_learn") = some (.ref f) ∧ zw B Jo f fd ∧ (∃ c,fd.code = .ref c ∧ CodeHd B c Pr) ∧ ∀ s a b c,BindsTo s fd ⟨[a,b,c],[]⟩ [(ofString "page",a),(ofString "names",b),(ofString "wants",c)]
noncomputable abbrev vU (st : LS) : Str × RV:=(ofString "rules",.dat (.list (st.rules.map zQ)))
noncomputable abbrev vL (nm : Nat → Str) (st : LS) : Str × RV:=(ofString "log",.dat (.list (st.log.map (jI nm))))
theorem zAP (H : yt prog w B mg mb C N mN) (R : Rm A 6) {p : Nat} {sums : List Int} {dr : List Nat} (Fp : xV p) {pg : List (Nat × Nat)} (hpl : pg.length ≤ 100) (hp16 : ∀ q ∈ pg,q.1 < 16) (hs : (pg.map Prod.fst).Pairwise (· ≤ ·)) {st : LS} (hst : yS (pg.map Prod.fst) = st)
  {P Pr : Addr} {d : D} (hrun : vk B mg Pr) (hOr : Own Pr)
  (S : St prog w B s₀ Own₀ M₀ zK env Own M [vX p,vG pg,vD dr,vM p,vW p,vR sums] [(P,d),(Pr,.obs Pr (tabObj #[]) [])] s)
  (hQ : ∀ Own' M' Ld Lh bk s' ps' os',wp prog w bk C Lh → (∀ b,Own b → Own' b) → (∀ b,M b → M' b) → Own' Ld → Own' Lh → Ld ≠ Lh → st.log.length ≤ 80 → st.rules.length ≤ 80 → st.tab.length ≤ 80 →
    St prog w B s₀ Own₀ M₀ zK env Own' M' [(ofString "table",.dat bk),vU st,vL (zU p) st,(ofString "laid",.adr Ld),vG pg,vD dr,vM p,vW p,vR sums] [(Ld,zu (zq (zU p) st.tab)),(Lh,zu (zq (zU p) st.tab)),(P,d),(Pr,.obs Pr (tabObj ps') os')] s' →
    wpAny (model prog w) A (execs ((zB zv).drop 14) env) Q E s') :
  wpAny (model prog w) A (execs ((zB zv).drop 13) env) Q E s:=by
 have R0 : Rm A 0:=R.le (zero_le _)
 have G:=H.le.hdr.G
 have W:=zAp Fp
 have HW:=QR Fp
 obtain ⟨rf,rfd,hrg,HF,hcd,hbr⟩:=hrun.fn
 show wpAny _ _ (execs (_ :: (zB zv).drop 14) env) _ _ _
 refine' JL [(ofString "table",_),(ofString "rules",_),(ofString "log",_),(ofString "laid",_)] rfl R.hh (by decide) (by k_extra "kd") rfl rfl (wh (f:=.ref rf) (rs:=[.dat (.list (pg.map zQ)),.dat (yB (zU p)),.dat (yB (k8 p))]) S.e (Ev.glob G S.e ?g1 (.inl hrg) (by decide)) HF.keepy (.cons (r:=.dat (.list (pg.map zQ))) ?g2 (.cons (r:=.dat (yB (zU p))) ?g3 (.cons (r:=.dat (yB (k8 p))) ?g4 .nil fun _ => rfl) fun _ => rfl) fun _ => rfl) fun vs s₁ k₁ rs => ?g5)
 case g1 => k_extra "kd"
 case g2 | g3 | g4 => clear hrg hst; k_extra "z"
 case g5 =>
  refine zP.use3 rs fun v1 v2 v3 r1 r2 r3 => ?_
  have S₁:=S.step k₁
  refine WD H.le HF hcd hbr W HW hpl hp16 hs (M₁:=M) (R.le (by decide)) S₁.e.base S₁.e.old (S₁.own Pr hOr) (S₁.base Pr hOr) r1 r2 r3 (S₁.e.mem Pr _ yY) fun t s₂ u1 Lr Ll Ld Lh bk c ef n1 n2 hne hI hT rv1 rv2 rv3 c1 c2 c3 l1 l2 l3 => ?_
  rw [hst] at rv2 rv3 c1 c2 l1 l2 l3
  obtain ⟨h2,tk2,rfl,kk⟩:=ef
  have S₂:=S₁.adopt (pre:=[(P,d)]) (post:=[]) (news:=[(Ld,zu (zq (zU p) st.tab)),(Lh,zu (zq (zU p) st.tab))]) (h':=h2) (tk:=tk2) hOr (fun b o n e => kk b o (by simpa using n) e) c3 (fun q hq => ?q1) (fun q hq => ?q2) (by simpa using hne)
  · refine ⟨_,_,_,_,t,_,[.dat bk,.dat (.list (st.rules.map zQ)),.dat (.list (st.log.map (jI (zU p)))),.adr Ld],rfl,S₂,hT,.cons rv1 (.cons rv2 (.cons rv3 (.cons rfl .nil))),rfl, ?_⟩
    clear S S₁ S₂
    intro s' S
    k_extra "flat"
    exact @hQ _ _ Ld Lh bk s' c.1 c.2 hI (fun b m => .inl m) (fun b m => .inl m) (.inr (.head _)) (.inr (.tail _ (.head _))) hne l1 l2 l3 (S.sub (by k_extra "sub"))
  case q1 =>
    rcases mem_cons.mp hq with rfl | hq
    · exact n2
    · cases mem_singleton.mp hq; exact n1
  case q2 =>
    rcases mem_cons.mp hq with rfl | hq
    · exact c1
    · cases mem_singleton.mp hq; exact c2
theorem X5 {r r' : List Nat} (h : ∀ x,x ∈ r ↔ x ∈ r') (x : Nat) : zI r x = zI r' x :=
 vC (x7 (fun y hy => (h y).mpr hy) x) (x7 (fun y hy => (h y).mp hy) x)
theorem V6 {r r' : List Nat} (h : ∀ x,x < 16 → (zI r x = x ↔ zI r' x = x)) : yW r = yW r':=by
 unfold yW vf
 refine filter_congr fun x hx => ?_
 rw [Bool.eq_iff_iff,beq_iff_eq,beq_iff_eq]; exact h x (mem_range.mp hx)
theorem XT {l : List Nat} {c : Nat} (hp : l.Pairwise (· < ·)) (hc : c ∈ l) (hl : ∀ y ∈ l,c ≤ y) : l[0]? = some c:=by
 cases l with
 | nil => cases hc
 | cons a l =>
  rw [pairwise_cons] at hp
  rcases mem_cons.mp hc with e | e
  · rw [e]; rfl
  · have:=hp.1 c e; have:=hl a (.head _); omega
theorem JV (rows : List Nat) {n : Nat} (hn : n < 16) : ((yW rows).filter fun o => o &&& n == n)[0]? = some (zI rows n):=by
 refine XT ((qR rows).filter _) (mem_filter.mpr ⟨jX.mpr ⟨yU rows n,jl hn rows⟩, ?_⟩) fun y hy => ?_
 · rw [beq_iff_eq,Nat.and_comm]; exact z8 hn rows
 · obtain ⟨h1,h2⟩:=mem_filter.mp hy
   rw [beq_iff_eq,Nat.and_comm] at h2
   have:=vF rows h2
   rw [(jX.mp h1).2] at this
   rw [← this]; exact Nat.and_le_right
theorem Xh : ∀ {l m : List Int},l.Nodup → (∀ x ∈ l,x ∈ m) → l.length ≤ m.length
 | [],_,_,_ => zero_le _
 | a :: l,m,h,s => by
  rw [nodup_cons] at h
  have ha:=s a (.head _)
  have:=Xh (l:=l) (m:=m.erase a) h.2 fun x hx => (List.mem_erase_of_ne (fun e : x = a => h.1 (by rw [← e]; exact hx))).mpr (s x (.tail _ hx))
  rw [List.length_erase_of_mem ha] at this
  have:=List.length_pos_of_mem ha
  rw [length_cons]; omega
theorem WJ {xs : List Nat} {x : Nat} (h : x ∈ xs) : (x : Int) ∈ xN xs:=by
 have e:=firstMet_any (fun i => (xs.map fun n : Nat => (n : Int)).getD i 0) xs.length (x : Int)
 have : (xN xs).any (· == (x : Int)) = true:=by
  unfold xN
  rw [e,List.any_map,List.any_eq_true]
  obtain ⟨i,hi⟩:=List.getElem?_of_mem h
  obtain ⟨hl,_⟩:=List.getElem?_eq_some_iff.mp hi
  refine ⟨i,mem_range.mpr hl, ?_⟩
  rw [Function.comp_apply,getD_eq_getElem?_getD,getElem?_map,hi]
  exact beq_self_eq_true _
 obtain ⟨y,hy,q⟩:=List.any_eq_true.mp this
 rw [← beq_iff_eq.mp q]; exact hy
theorem Zt {l xs : List Nat} (hn : l.Nodup) (hs : ∀ x ∈ l,x ∈ xs) : l.length ≤ (xN xs).length:=by
 have:=Xh (l:=l.map fun n : Nat => (n : Int)) (m:=xN xs) (pairwise_map.mpr (List.Pairwise.imp (fun n e => n (Int.ofNat_inj.mp e)) hn)) fun x hx => by
  obtain ⟨y,hy,rfl⟩:=mem_map.mp hx
  exact WJ (hs y hy)
 rwa [length_map] at this
theorem Z8 {l : List Nat} (hn : l.Nodup) : (xN l).length = l.length :=
 le_antisymm (firstMet_length_le _ _) (Zt hn fun _ h => h)
structure LF (dr : List Nat) (st : LS) : Prop where
 few : st.log.length ≤ st.rules.length + (xN dr).length
 rule : ∀ p ∈ st.rules,p.1 < 16 ∧ p.2 = zI dr p.1
 br : ∀ x,x < 16 → breaks x st.rules = !vf dr x
 nodup : (zJ st.tab).Nodup
 sub : ∀ r ∈ zJ st.tab,r ∈ dr
 shut : yW (zJ st.tab) = yW dr
 log : ∀ e ∈ st.log,e.2.2.1 = yw (yJ dr) e.1 e.2.1 ∧ e.2.2.2 = yf dr e.1 ∧ e.1 < 16 ∧ e.2.1 < 16
 tabs : st.tab.map (fun t => (t.1,t.2.2)) = st.log.filterMap jL
 turn : ∀ t ∈ st.tab,t.1 < 16 ∧ t.2.1 < 5
theorem lF {dr pf : List Nat} (hp : pf.Perm dr) (hs : pf.Pairwise (· ≤ ·)) : LF dr (yS pf):=by
 obtain ⟨I,K⟩:=Qt pf
 have hc:=X5 (r:=pf) (r':=dr) fun x => hp.mem_iff
 have hsub : ∀ r ∈ zJ (yS pf).tab,r ∈ dr:=fun r hr => hp.mem_iff.mp (I.sub r hr)
 have hsr : pf = yJ dr:=kI (hp.trans (wQ dr).symm) hs (qI dr)
 refine ⟨?_,fun p h => ?_,fun x hx => ?_,I.nodup,hsub,V6 fun x hx => ?_,fun e he => ?_,I.tabs,I.turn⟩
 · have h1:=I.len
   have h2:=Zt I.nodup hsub
   have h3 : (zJ (yS pf).tab).length = (yS pf).tab.length:=length_map _
   omega
 · obtain ⟨h1,h2⟩:=I.rule p h
   exact ⟨h1,by rw [h2,hc]⟩
 · have:=(K x hx).1
   rw [hc] at this
   unfold vf
   rw [Bool.eq_iff_iff,not_eq_true',beq_eq_false_iff_ne,ne_eq,← this]
   simp
 · rw [(K x hx).2,hc]
 · obtain ⟨h1,h2,h3⟩:=I.log e he
   refine ⟨by rw [h1,hsr], ?_,h3⟩
   rw [h2]
   exact (hp.filter _).length_eq
theorem Jh {α β : Type} (p : α → Bool) (f : α → β) (z : β) (l : List α) : ((l.filter p).map f ++ [z])[0]? = some (match l.find? p with | none => z | some r => f r):=by
 rw [← List.head?_filter]
 cases l.filter p with
 | nil => rfl
 | cons a l => rfl
theorem JY {st : LS} (h : st.tab.map (fun t => (t.1,t.2.2)) = st.log.filterMap jL) (has : Nat) {α : Type} (f : Nat → α) :
  (st.tab.filter fun t => t.1 == has).map (fun t => f t.2.2) = (st.log.filter fun e => e.1 == has && e.2.2.1.isSome).map fun e => f (e.2.2.1.getD 0):=by
 have e1 : ((st.tab.map (fun t => (t.1,t.2.2))).filter fun q => q.1 == has).map (fun q => f q.2) = (st.tab.filter fun t => t.1 == has).map (fun t => f t.2.2):=by
  rw [List.filter_map,map_map]; rfl
 rw [← e1,h]
 clear e1 h
 induction st.log with
 | nil => rfl
 | cons e l ih =>
  rw [filterMap_cons]
  obtain ⟨a,b,o,c⟩:=e
  cases o with
  | none => simpa [jL] using ih
  | some r =>
   simp only [jL,Option.map_some,List.filter_cons,Option.isSome_some,Bool.and_true]
   by_cases q : (a == has) = true
   · rw [if_pos q,if_pos q,map_cons,map_cons,ih]; rfl
   · rw [if_neg q,if_neg q,ih]
noncomputable abbrev vH (dr : List Nat) : Str × RV:=(ofString "shut",.dat (.list ((yW dr).map zC)))
noncomputable abbrev vE (dr : List Nat) : Str × RV:=(ofString "least",.dat (.list ((List.range 16).map fun n => zC (zI dr n))))
theorem Ev.shut (H : yt prog w B mg mb C N mN) (R : Rm A 1) (S : En prog w B names env h M ρ μ) {fp pos : Pos} {e : Expr} {rows : List Nat} (hl : rows.length ≤ 100) (hgi : names.lookup (ofString "_law_shut") = some .globalImplicit) (he : Ev prog w A h e env (PS prog w M (.list (rows.map zC))))
   (hst : ∀ rest,starEach (e :: rest) env = (false,eval e env) :: starEach rest env) : Ev prog w A h (.Call (.Name (ofString "_law_shut") fp) [e] [] pos) env (PS prog w M (.list ((yW rows).map zC))):=by
 obtain ⟨f,fd,HS,hb⟩:=H.shut
 have G:=H.le.hdr.G
 refine Ev.call1 S (Ev.glob G S hgi (.inl HS.g) (by decide)) HS.keepy he hst fun v s E Q kx rv hQ => ?_
 refine ko G HS (xs:=[ofString "rows"]) (fun vs hv s => ?_) rfl (by decide) (by k_extra "kd") (Km G H.le.hdr.li H.sorted rows hl) R (S.base.trans kx) (fun a m => ?_) (.cons rv .nil) hQ
 · obtain ⟨a,rfl⟩:=Qr hv
   exact hb a s
 · obtain ⟨o,e⟩:=S.old a m
   exact ⟨o,kx a o e⟩
theorem Ev.breaks (H : yt prog w B mg mb C N mN) (R : Rm A 1) (S : En prog w B names env h M ρ μ) {fp pos : Pos} {e1 e2 : Expr} {n : Nat} {rules : List (Nat × Nat)} (hl : rules.length ≤ 1000) (hgi : names.lookup (ofString "_law_breaks") = some .globalImplicit)
  (h1 : Ev prog w A h e1 env (PR prog w M (zC n))) (h2 : Ev prog w A h e2 env (PR prog w M (.list (rules.map zQ))))
  (t1 : ∀ rest,starEach (e1 :: rest) env = (false,eval e1 env) :: starEach rest env) (t2 : ∀ rest,starEach (e2 :: rest) env = (false,eval e2 env) :: starEach rest env) : Ev prog w A h (.Call (.Name (ofString "_law_breaks") fp) [e1,e2] [] pos) env (PS prog w M (.bool (Mine.breaks n rules))):=by
 obtain ⟨f,fd,HB,hb⟩:=H.le.br
 have G:=H.le.hdr.G
 exact Ev.call S R (Ev.glob G S hgi (.inl HB.g) (by decide)) HB.keepy (yy.cons h1 (yy.cons h2 .nil t2) t1) (Wi G HB hb n rules hl)
theorem Ev.lenOf (H : yt prog w B mg mb C N mN) (R : Rm A 0) (S : En prog w B names env h M ρ μ) {fp pos : Pos} {e : Expr} {xs : List D} (hl : xs.length ≤ 1000) (hgi : names.lookup (ofString "len") = some .globalImplicit) (he : Ev prog w A h e env (PR prog w M (.list xs)))
  (hst : ∀ rest,starEach (e :: rest) env = (false,eval e env) :: starEach rest env) : Ev prog w A h (.Call (.Name (ofString "len") fp) [e] [] pos) env (PS prog w M (.int xs.length)) :=
 Ev.call S R (Ev.glob H.le.hdr.G S hgi (.inr H.le.ell.len) (by decide)) (.inl fun _ e => by cases e) (yy.cons he .nil hst) (zG.lenL xs (by rw [sizeLine_eq]; omega))
theorem zAT (H : yt prog w B mg mb C N mN) (R : Rm A 3) {dr : List Nat} (hdl : dr.length ≤ 5)
  (S : St prog w B s₀ Own₀ M₀ zK env Own M ρ μ s) (hd : vD dr ∈ ρ)
  (hQ : ∀ s',St prog w B s₀ Own₀ M₀ zK env Own M (vE dr :: vH dr :: YX (ofString "least") (YX (ofString "shut") ρ)) μ s' → wpAny (model prog w) A (execs ((zB zv).drop 16) env) Q E s') :
  wpAny (model prog w) A (execs ((zB zv).drop 14) env) Q E s:=by
 have R0 : Rm A 0:=R.le (zero_le _)
 have G:=H.le.hdr.G
 have hr:=H.le.range
 show wpAny _ _ (execs (_ :: _ :: (zB zv).drop 16) env) _ _ _
 refine' z7 (d:=.list ((yW dr).map zC)) S ?b1 ?b2 rfl ?b3
 case b2 => k_extra "kd"
 case b1 =>
  refine' Ev.shut H (R.le (by decide)) S.e (rows:=dr) (by omega) ?c1 (Ev.name S.e hd (by decide)) fun _ => rfl
  case c1 => k_extra "kd"
 case b3 =>
  have hd : vD dr ∈ YX (ofString "shut") ρ:=jt hd (by decide)
  k_extra "next"
  refine' xw S ?c1 R0 ?c2 (dsrc:=.rng 0 (16 : Nat) 1) ?c3 (List.range 16) (fun n : Nat => .int n) (zj.nat (by decide)) (fun n => zC (zI dr n)) ?c4 ?c5 ?c6 ?c7 ?c8
  case c1 | c2 => k_extra "kd"
  case c3 => k_extra "z"
  case c4 => k_extra "kd"
  case c5 => rw [length_range,sizeLine_eq]; decide
  case c6 => k_extra "fs"
  case c8 => exact fun s' S' => @hQ s' (S'.sub (all_cons (.head _) (all_cons (.tail _ (jt (.head _) (by decide))) fun x r m => .tail _ (by
   have m2:=mem_filter.mp m
   have m3:=mem_filter.mp m2.1
   exact mem_filter.mpr ⟨.tail _ m2.1,m2.2⟩))))
  case c7 =>
   intro n hn env' h' M' kx hE
   have hn:=mem_range.mp hn
   refine' Ev.item (xs:=((yW dr).filter fun o => o &&& n == n).map zC) (i:=0) (Ev.rd (Ev.comp1F hE R0 ?y1 (dsrc:=.list ((yW dr).map zC)) ?y2 (yW dr) zC (zj.list _) (fun o => o &&& n == n) zC ?y3 ?y4 ?y5 ?y6)) ?y7 (by decide) (by decide) ?y8
   case y1 => k_extra "kd"
   case y2 => k_extra "z"
   case y3 => k_extra "kd"
   case y4 =>
    have:=length_filter_le (vf dr) (List.range 16)
    rw [length_range] at this
    rw [sizeLine_eq]; unfold yW; omega
   case y5 => k_extra "fs"
   case y7 => k_extra "z"
   case y8 => rw [getElem?_map]; rw [show (0 : Int).toNat = 0 from rfl,JV dr hn]; rfl
   case y6 =>
    clear hE
    intro o ho env'' h'' M'' kx' hE
    refine ⟨xl.one (Tv.cmp R0 (Ev.rd (Ev.bin hE ?t1 ?t2 (yC.andN _ _))) ?t3 (zN.eqN _ _) rfl),fun _ => ?t4⟩
    case t1 | t2 | t3 | t4 => k_extra "z"
noncomputable abbrev QI (bk : D) (Ld : Addr) (p : Nat) (pg : List (Nat × Nat)) (dr : List Nat) (sums : List Int) (st : LS) : List (Str × RV) :=
 [vE dr,vH dr,(ofString "table",.dat bk),vU st,vL (zU p) st,(ofString "laid",.adr Ld),vG pg,vD dr,vM p,vW p,vR sums]
theorem J8 (H : yt prog w B mg mb C N mN) (R : Rm A 3) {bk : D} {Ld : Addr} {p : Nat} {pg : List (Nat × Nat)} {dr : List Nat} {sums : List Int} {st : LS} (hdl : dr.length ≤ 5) (F : LF dr st) (l1 : st.log.length ≤ 80) (l2 : st.rules.length ≤ 80)
  (S : St prog w B s₀ Own₀ M₀ zK env Own M (QI bk Ld p pg dr sums st) μ s)
  (hQ : ∀ s',St prog w B s₀ Own₀ M₀ zK env Own M (QI bk Ld p pg dr sums st) μ s' → wpAny (model prog w) A (execs ((zB zv).drop 17) env) Q E s') :
  wpAny (model prog w) A (execs ((zB zv).drop 16) env) Q E s:=by
 have R0 : Rm A 0:=R.le (zero_le _)
 have G:=H.le.hdr.G
 have hr:=H.le.range
 show wpAny _ _ (execs (_ :: (zB zv).drop 17) env) _ _ _
 refine' wb S ?top hQ
 clear hQ
 refine' Tv.cast (Tv.or_cons (a:=false) (b:=false) ?q1 fun _ => Tv.cast (Tv.or_cons (a:=false) (b:=false) ?q2 fun _ => Tv.cast (Tv.or_cons (a:=false) (b:=false) ?q3 fun _ => Tv.or_nil) rfl) rfl) rfl
 case q1 =>
  refine' Tv.cast (Tv.cmp (da:=.int ((st.log.map (jI (zU p))).length : Nat)) (db:=.int (((st.rules.map zQ).length : Nat) + ((xN dr).length : Nat))) R0 (Ev.rd (Ev.lenOf H R0 S.e ?a1 ?a2 ?a3 fun _ => rfl)) (Ev.rd (Ev.bin S.e (Ev.rd (Ev.lenOf H R0 S.e ?b1 ?b2 ?b3 fun _ => rfl)) (Ev.rd (Ev.lenSet G H.le.ell.len H.set S.e R0 (xs:=dr) ?c1 ?c2 ?c3 ?c4 (fun _ => rfl) (fun _ => rfl))) (yC.add _ _))) (zN.gt _ _) rfl) ?a4
  case a1 => rw [length_map]; omega
  case a2 => k_extra "kd"
  case a3 => k_extra "z"
  case b1 => rw [length_map]; omega
  case b2 => k_extra "kd"
  case b3 => k_extra "z"
  case c1 => omega
  case c2 | c3 => k_extra "kd"
  case c4 => k_extra "z"
  case a4 => have:=F.few; rw [length_map,length_map]; exact decide_eq_false (by omega)
 case q2 =>
  have ho : xz 8 (.list (st.rules.map fun p => zC p.2)) = true:=by
   rw [show (st.rules.map fun p => zC p.2) = (st.rules.map Prod.snd).map zC from by rw [map_map]; rfl]; exact vK _
  refine' Tv.cast (Tv.cmp (da:=.list (st.rules.map fun p => zC p.2)) (db:=.list (st.rules.map fun p => zC p.2)) R0 (Ev.rd (Ev.compM S.e R0 ?a1 (dsrc:=.list (st.rules.map zQ)) ?a2 st.rules zQ (zj.list _) (fun p => [(ofString "low",.dat (zC p.1)),(ofString "high",.dat (zC p.2))]) (fun p => zC p.2) ?a3 (yo fun _ => by kernel_rfl) (by rw [sizeLine_eq]; omega) ?a5 ?a6)) (Ev.rd (Ev.compM S.e R0 ?b1 (dsrc:=.list (st.rules.map zQ)) ?b2 st.rules zQ (zj.list _) (fun p => [(ofString "low",.dat (zC p.1)),(ofString "high",.dat (zC p.2))]) (fun p => zC p.2) ?b3 (yo fun _ => by kernel_rfl) (by rw [sizeLine_eq]; omega) ?b5 ?b6)) (zN.ne ho ho) rfl) (by rw [yc ho]; rfl)
  clear ho
  case a1 | b1 => k_extra "kd"
  case a2 | b2 => k_extra "z"
  case a3 | b3 => exact fun p _ => wu.tuple [(ofString "low",_),(ofString "high",_)] rfl (by decide) (by k_extra "kd") rfl
  case a5 | b5 => k_extra "fs"
  case a6 =>
   intro p hp env' h' M' kx hE
   k_extra "z"
  case b6 =>
   intro p hp env' h' M' kx hE
   obtain ⟨h1,h2⟩:=F.rule p hp
   refine' Ev.item (xs:=(List.range 16).map fun n => zC (zI dr n)) (i:=(p.1 : Int)) ?v1 ?v2 (by omega) (by omega) ?v3
   case v1 | v2 => k_extra "z"
   case v3 => rw [toNat_natCast,getElem?_map,getElem?_range h1,h2]; rfl
 case q3 =>
  have ho:=vK (yW dr)
  refine' Tv.cast (Tv.cmp (da:=.list ((yW dr).map zC)) (db:=.list ((yW dr).map zC)) R0 (Ev.rd (Ev.cast (Ev.comp1F S.e R0 ?y1 (dsrc:=.rng 0 (16 : Nat) 1) ?y2 (List.range 16) (fun n : Nat => .int n) (zj.nat (by decide)) (fun n => !Mine.breaks n st.rules) zC ?y3 ?y4 ?y5 ?y6) ?y7)) ?y8 (zN.ne ho ho) rfl) (by rw [yc ho]; rfl)
  clear ho
  case y1 | y3 => k_extra "kd"
  case y2 | y8 => k_extra "z"
  case y4 => rw [length_range,sizeLine_eq]; decide
  case y5 => k_extra "fs"
  case y7 =>
   refine congrArg (fun l : List Nat => D.list (l.map zC)) (filter_congr fun x hx => ?_)
   rw [F.br x (mem_range.mp hx),Bool.not_not]
  case y6 =>
   intro n hn env' h' M' kx hE
   refine ⟨xl.one (Tv.not (Tv.plain (Ev.rd (Ev.breaks H (R.le (by decide)) hE (rules:=st.rules) (by omega) ?t1 ?t2 ?t3 (fun _ => rfl) fun _ => rfl)) (ym.bool _) rfl)),fun _ => ?t4⟩
   case t1 => k_extra "kd"
   case t2 | t3 | t4 => k_extra "z"
theorem Kr (H : yt prog w B mg mb C N mN) (R : Rm A 3) {bk : D} {Ld Lh P Pr : Addr} {d d' : D} {p : Nat} {pg : List (Nat × Nat)} {dr : List Nat} {sums : List Int} {st : LS} (hI : wp prog w bk C Lh) (hdl : dr.length ≤ 5) (hd16 : ∀ r ∈ dr,r < 16) (Fp : xV p) (F : LF dr st) (l3 : st.tab.length ≤ 80)
  (S : St prog w B s₀ Own₀ M₀ zK env Own M (QI bk Ld p pg dr sums st) [(Ld,zu (zq (zU p) st.tab)),(Lh,zu (zq (zU p) st.tab)),(P,d),(Pr,d')] s)
  (hQ : ∀ s',St prog w B s₀ Own₀ M₀ zK env Own M (QI bk Ld p pg dr sums st) [(Ld,zu (zq (zU p) st.tab)),(Lh,zu (zq (zU p) st.tab)),(P,d),(Pr,d')] s' → wpAny (model prog w) A (execs ((zB zv).drop 19) env) Q E s') :
  wpAny (model prog w) A (execs ((zB zv).drop 17) env) Q E s:=by
 have R0 : Rm A 0:=R.le (zero_le _)
 have G:=H.le.hdr.G
 have HW:=QR Fp
 have hrl : (zJ st.tab).length = st.tab.length:=length_map _
 show wpAny _ _ (execs (_ :: _ :: (zB zv).drop 19) env) _ _ _
 refine' xw S ?c1 R0 ?c2 (dsrc:=.list ((zq (zU p) st.tab).map fun y => .str y.2)) ?c3 st.tab (fun t => .str (zU p t.2.2)) ?c0 (fun t => zC t.2.2) ?c4 ?c5 ?c6 ?c7 ?c8
 case c1 | c2 | c4 => k_extra "kd"
 case c0 => rw [map_map]; exact .list _
 case c3 =>
  obtain ⟨gf,gfd,g1,g2,g3⟩:=H.le.hdr.vals
  refine' Ev.rd (Ev.imeth (rs:=[]) S.e ?qo hI H.le.hdr.cls g1 g2 H.le.hdr.nga H.le.hdr.nge jT (if_neg (by decide)) .nil ?hcall rfl)
  case qo => k_extra "z"
  case hcall =>
   intro x vs s₂ E2 Q2 X1 old2 X2 rx rvs hq
   cases rvs
   exact jP H.le.hdr g2 g3 (ys:=zq (zU p) st.tab) (R.le (by decide)) X2 old2 hI rx ((S.e.mem Lh _ yY).ext X1) (by rw [length_map]; omega) hq
 case c5 => rw [sizeLine_eq]; omega
 case c6 => k_extra "fs"
 case c7 =>
  intro t ht env' h' M' kx hE
  have h16 : t.2.2 < 16:=hd16 _ (F.sub _ (mem_map.mpr ⟨t,ht,rfl⟩))
  refine' Ev.meth (T := "list") hE R0 ?m1 rfl PySem.F.plainAttrs_list PySem.F.slot_list_index PySem.F.type_list_index (yy.cons ?m2 .nil fun _ => rfl) rfl (by decide) rfl (zG.index ((List.range 16).map (zU p)) (zU p t.2.2) t.2.2 ?m3 (fun j hj => ?m4) (by rw [length_map,length_range]; decide))
  case m1 => rw [map_map]; show Ev _ _ _ _ _ _ (PR _ _ _ (yB (zU p))); k_extra "z"
  case m2 => k_extra "z"
  case m3 => rw [getElem?_map,getElem?_range h16]; rfl
  case m4 =>
   rw [getElem?_map,getElem?_range (by omega)]
   intro e
   have:=HW.one j t.2.2 (by omega) h16 (Option.some.inj e)
   omega
 case c8 =>
  clear S
  intro s' S
  rw [show (st.tab.map fun t => zC t.2.2) = (zJ st.tab).map zC from by unfold zJ; rw [map_map]; rfl] at S
  refine' wb S ?top fun s' S' => hQ s' (S'.sub ?tsub)
  case tsub => k_extra "sub"
  clear hQ
  refine' Tv.cast (Tv.or_cons (a:=false) (b:=false) ?q1 fun _ => Tv.cast (Tv.or_cons (a:=false) (b:=false) ?q2 fun _ => Tv.cast (Tv.or_cons (a:=false) (b:=false) ?q3 fun _ => Tv.or_nil) rfl) rfl) rfl
  case q1 =>
   refine' Tv.cast (Tv.cmp (da:=.int ((xN (zJ st.tab)).length : Nat)) (db:=.int (((zJ st.tab).map zC).length : Nat)) R0 (Ev.rd (Ev.lenSet G H.le.ell.len H.set S.e R0 (xs:=zJ st.tab) ?c1 ?c2 ?c3 ?c4 (fun _ => rfl) (fun _ => rfl))) (Ev.rd (Ev.lenOf H R0 S.e ?a1 ?a2 ?a3 fun _ => rfl)) (zN.neI _ _) rfl) ?a4
   case a1 => rw [length_map]; omega
   case a2 | c2 | c3 => k_extra "kd"
   case a3 | c4 => k_extra "z"
   case c1 => omega
   case a4 => rw [Z8 F.nodup,length_map]; simp
  case q2 =>
   refine' Tv.cast (Tv.cmp (da:=.list []) (db:=.list []) R0 (Ev.rd (Ev.cast (Ev.comp1F S.e R0 ?y1 (dsrc:=.list ((zJ st.tab).map zC)) ?y2 (zJ st.tab) zC (zj.list _) (fun r => !dr.contains r) zC ?y3 ?y4 ?y5 ?y6) ?y7)) ?y8 (zN.ne rfl rfl) rfl) rfl
   case y1 | y3 => k_extra "kd"
   case y2 | y8 => k_extra "z"
   case y4 => rw [sizeLine_eq]; omega
   case y5 => k_extra "fs"
   case y7 => rw [List.filter_eq_nil_iff.mpr fun r hr => by simpa using F.sub r hr]; rfl
   case y6 =>
    intro r hr env' h' M' kx hE
    refine ⟨xl.one (Tv.cmp (M:=M') R0 ?t1 ?t2 (zN.notInN _ _) rfl),fun _ => ?t4⟩
    case t1 | t2 | t4 => k_extra "z"
  case q3 =>
   have ho:=vK (yW dr)
   refine' Tv.cast (Tv.cmp (da:=.list ((yW dr).map zC)) (db:=.list ((yW dr).map zC)) R0 (Ev.rd (Ev.cast (Ev.shut H (R.le (by decide)) S.e (rows:=zJ st.tab) (by omega) ?z1 ?z2 fun _ => rfl) (by rw [F.shut]))) ?z3 (zN.ne ho ho) rfl) (by rw [yc ho]; rfl)
   clear ho
   case z1 => k_extra "kd"
   case z2 | z3 => k_extra "z"
noncomputable abbrev Zm (bk : D) (Ld : Addr) (p : Nat) (pg : List (Nat × Nat)) (dr : List Nat) (sums : List Int) (st : LS) : List (Str × RV) :=
 [(ofString "table",.dat bk),vL (zU p) st,(ofString "laid",.adr Ld),vG pg,vD dr,vM p,vW p,vR sums]
noncomputable abbrev zBP (nm : Nat → Str) (a b c d : Str) (e : Nat × Nat × Option Nat × Nat) : List (Str × RV):=[(a,.dat (zC e.1)),(b,.dat (zC e.2.1)),(c,.dat (xT nm e.2.2.1)),(d,.dat (zC e.2.2.2))]
theorem KF {nm : Nat → Str} {o : Option Nat} (h : ∀ r,o = some r → PyData.strOk (nm r) = true) : xz 8 (xT nm o) = true:=by
 cases o with
 | none => rfl
 | some r => exact h r rfl
theorem X9 (nm : Nat → Str) (l : List Nat) (has shall : Nat) : ((l.filter fun r => r &&& has == has && r &&& shall != shall).map (fun r => D.str (nm r)) ++ [D.none])[0]? = some (xT nm (yw l has shall)):=by
 rw [Jh (fun r => r &&& has == has && r &&& shall != shall) (fun r => D.str (nm r)) D.none]
 show _ = some (xT nm (l.find? fun r => r &&& has == has && r &&& shall != shall))
 cases l.find? fun r => r &&& has == has && r &&& shall != shall <;> rfl
theorem VR {l : List Nat} {x : Nat} : x ∈ yJ l ↔ x ∈ l:=(wQ l).mem_iff
noncomputable def ZB (nm : Nat → Str) (st : LS) (has : Nat) : List D:=(st.tab.filter fun t => t.1 == has).map fun t => .str (nm t.2.2)
theorem Qv {p : Nat} (N : JS (zU p)) {st : LS} (ht : ∀ t ∈ st.tab,t.1 < 16) {has : Nat} (hh : has < 16) : ((zq (zU p) st.tab).filter fun y => zb y.1 == zb (ww (zU p has))).map (fun y => D.str y.2) = ZB (zU p) st has:=by
 unfold ZB zq
 rw [List.filter_map,map_map]
 have : (st.tab.filter ((fun y : Str × Str => zb y.1 == zb (ww (zU p has))) ∘ wJ (zU p))) = st.tab.filter fun t => t.1 == has:=by
  refine filter_congr fun t hm => ?_
  have h16:=ht t hm
  have e : zb (wJ (zU p) t).1 = zb (zU p t.1):=by
   unfold wJ
   dsimp only
   split
   · exact jm (N.ascii _ h16)
   · rfl
  rw [Function.comp_apply,e,wk (N.ascii _ hh),Bool.eq_iff_iff,beq_iff_eq,beq_iff_eq]
  exact ⟨N.lone _ _ h16 hh,fun q => by rw [q]⟩
 rw [this]; rfl
theorem KU {nm : Nat → Str} {dr : List Nat} {st : LS} (F : LF dr st) (has : Nat) : (st.log.filter fun e => e.1 == has && e.2.2.1.isSome).map (fun e => xT nm e.2.2.1) = ZB nm st has:=by
 unfold ZB
 rw [JY F.tabs has fun r => D.str (nm r)]
 refine map_congr_left fun e he => ?_
 have:=(mem_filter.mp he).2
 obtain ⟨a,b,o,c⟩:=e
 cases o with
 | none => simp at this
 | some r => rfl
theorem Ks (H : yt prog w B mg mb C N mN) (R : Rm A 3) {bk : D} {Ld Lh P Pr : Addr} {d d' : D} {p : Nat} {pg : List (Nat × Nat)} {dr : List Nat} {sums : List Int} {st : LS} (hI : wp prog w bk C Lh) (hdl : dr.length ≤ 5) (hd16 : ∀ r ∈ dr,r < 16) (Fp : xV p) (F : LF dr st) (l1 : st.log.length ≤ 80) (l3 : st.tab.length ≤ 80)
  (S : St prog w B s₀ Own₀ M₀ zK env Own M (QI bk Ld p pg dr sums st) [(Ld,zu (zq (zU p) st.tab)),(Lh,zu (zq (zU p) st.tab)),(P,d),(Pr,d')] s)
  (hQ : ∀ s',St prog w B s₀ Own₀ M₀ zK env Own M (Zm bk Ld p pg dr sums st) [(Ld,zu (zq (zU p) st.tab)),(Lh,zu (zq (zU p) st.tab)),(P,d),(Pr,d')] s' → wpAny (model prog w) A (execs ((zB zv).drop 20) env) Q E s') :
  wpAny (model prog w) A (execs ((zB zv).drop 19) env) Q E s:=by
 have R0 : Rm A 0:=R.le (zero_le _)
 have G:=H.le.hdr.G
 have HW:=WL Fp
 show wpAny _ _ (execs (_ :: (zB zv).drop 20) env) _ _ _
 refine' xP (α:=Nat × Nat × Option Nat × Nat) (σ:=Unit) S R0 ?qv (dsrc:=.list (st.log.map (jI (zU p)))) st.log (jI (zU p)) (zj.list _) (zBP (zU p) (ofString "has") (ofString "shall") (ofString "told") (ofString "spot")) ?asg ?fs
  (fun _ => Zm bk Ld p pg dr sums st) (fun _ => [(Ld,zu (zq (zU p) st.tab)),(Lh,zu (zq (zU p) st.tab)),(P,d),(Pr,d')]) (fun _ _ => True) (fun _ _ _ => False) () trivial ?rho rfl ?off ?turn ?done (fun _ _ _ h _ => h.elim)
 case qv => k_extra "z"
 case asg => exact fun e _ => wu.tuple [(ofString "has",_),(ofString "shall",_),(ofString "told",_),(ofString "spot",_)] rfl (by decide) (by k_extra "kd") rfl
 case fs => k_extra "fs"
 case rho => k_extra "sub"
 case off => intro c y; k_extra "kd"
 case done =>
  intro c s' _ S'
  exact zD (hQ s' S')
 case turn =>
  clear S hQ
  intro i e c M' s₁ he _ hMM S
  obtain ⟨has,shall,told,spot⟩:=e
  obtain ⟨f1,f2,f3,f4⟩:=F.log _ (mem_of_getElem? he)
  dsimp only at f1 f2 f3 f4
  subst f1 f2
  clear he c hMM
  have hlt : ∀ r,yw (yJ dr) has shall = some r → r < 16:=fun r e => hd16 r (VR.mp (VH e))
  show wpAny _ _ (execs (_ :: _ :: _ :: []) env) _ _ _
  refine' z7 (d:=.list (((yJ dr).filter fun r => r &&& has == has && r &&& shall != shall).map (fun r => D.str (zU p r)) ++ [.none])) S ?a1 ?a2 rfl ?a3
  case a2 => k_extra "kd"
  case a1 =>
   refine' Ev.bin S.e (Ev.rd (Ev.comp1F S.e R0 ?b1 (dsrc:=.list ((yJ dr).map zC)) ?b2 (yJ dr) zC (zj.list _) (fun r => r &&& has == has && r &&& shall != shall) (fun r => .str (zU p r)) ?b3 ?b4 ?b5 ?b6)) ?b7 (yC.addL _ _ ?b8)
   case b1 | b3 => k_extra "kd"
   case b2 =>
    refine' Ev.rd (Ev.call S.e R0 (Ev.glob G S.e ?e1 (.inr H.sorted) (by decide)) ?e2 (yy.cons ?e3 .nil fun _ => rfl) (zG.sorted dr (by omega)))
    case e1 => k_extra "kd"
    case e2 | e3 => k_extra "z"
   case b4 => rw [(wQ dr).length_eq,sizeLine_eq]; omega
   case b5 => k_extra "fs"
   case b7 => k_extra "z"
   case b8 =>
    have:=length_filter_le (fun r => r &&& has == has && r &&& shall != shall) (yJ dr)
    rw [(wQ dr).length_eq] at this
    rw [length_map,List.length_singleton,sizeLine_eq]; omega
   case b6 =>
    intro r hr env' h' M' kx hE
    have hr16:=hd16 r (VR.mp hr)
    refine ⟨xl.one (Tv.and_cons (Tv.cmp (M:=M') R0 (Ev.rd (Ev.bin hE ?t1 ?t2 (yC.andN _ _))) ?t3 (zN.eqN _ _) rfl) fun _ => Tv.cast (Tv.and_cons (Tv.cmp (M:=M') R0 (Ev.rd (Ev.bin hE ?t4 ?t5 (yC.andN _ _))) ?t6 (zN.neN _ _) rfl) fun _ => Tv.and_nil) (Bool.and_true _)),fun _ => ?t7⟩
    case t1 | t2 | t3 | t4 | t5 | t6 => k_extra "z"
    case t7 =>
     refine' Ev.item (xs:=(List.range 16).map fun n => .str (zU p n)) (i:=(r : Int)) ?y1 ?y2 (by omega) (by omega) (xZ (zU p) hr16)
     case y1 | y2 => k_extra "z"
  case a3 =>
   k_extra "next"
   refine' wb S ?p1 ?p2
   case p1 =>
    have ho : xz 8 (xT (zU p) (yw (yJ dr) has shall)) = true:=KF fun r e => Fp.ok r (hlt r e)
    refine' Tv.cast (Tv.or_cons (a:=false) (b:=false) (Tv.cast (Tv.cmp (da:=xT (zU p) (yw (yJ dr) has shall)) (db:=xT (zU p) (yw (yJ dr) has shall)) R0 ?q1 (Ev.rd (Ev.item (xs:=((yJ dr).filter fun r => r &&& has == has && r &&& shall != shall).map (fun r => D.str (zU p r)) ++ [.none]) (i:=0) ?q2 ?q3 (by decide) (by decide) ?q4)) (zN.ne ho ho) rfl) (by rw [yc ho]; rfl)) fun _ => Tv.cast (Tv.or_cons (a:=false) (b:=false) ?q5 fun _ => Tv.or_nil) rfl) rfl
    case q1 | q2 | q3 => k_extra "z"
    case q4 =>
     show (_ : List D)[0]? = _
     exact X9 _ _ _ _
    case q5 =>
     skip
     refine' Tv.cast (Tv.cmp (da:=zC (yf dr has)) (db:=.int (((dr.filter fun r => decide (r < has)).map zC).length : Nat)) R0 ?z1 (Ev.rd (Ev.lenOf H R0 S.e ?z2 ?z3 (Ev.rd (Ev.comp1F S.e R0 ?y1 (dsrc:=.list (dr.map zC)) ?y2 dr zC (zj.list _) (fun r => decide (r < has)) zC ?y3 ?y4 ?y5 ?y6)) fun _ => rfl)) (zN.neI _ _) rfl) ?z4
     case z1 | y2 => k_extra "z"
     case z2 =>
      have:=length_filter_le (fun r => decide (r < has)) dr
      rw [length_map]; omega
     case z3 | y1 | y3 => k_extra "kd"
     case z4 => unfold yf; rw [length_map]; simp
     case y4 => rw [sizeLine_eq]; omega
     case y5 => k_extra "fs"
     case y6 =>
      intro r hr env' h' M' kx hE
      refine ⟨xl.one (Tv.cast (Tv.cmp (M:=M') R0 ?u1 ?u2 (zN.lt (r : Int) (has : Int)) rfl) ?u3),fun _ => ?u4⟩
      case u1 | u2 | u4 => k_extra "z"
      case u3 => rw [decide_eq_decide]; omega
   case p2 =>
    clear S
    intro s' S
    have hol : xz 8 (.list (ZB (zU p) st has)) = true:=by
     rw [xq,all_eq_true]
     intro x hx
     obtain ⟨t,ht,rfl⟩:=mem_map.mp hx
     exact Fp.ok _ (hd16 _ (F.sub _ (mem_map.mpr ⟨t,(mem_filter.mp ht).1,rfl⟩)))
    refine' wb S ?m1 fun s' S' => zD ⟨(),_,_,S'.sub ?m2,trivial⟩
    case m2 => k_extra "sub"
    case m1 =>
     refine' Tv.cast (Tv.cmp (da:=.list (ZB (zU p) st has)) (db:=.list (ZB (zU p) st has)) R0 (Ev.rd ?g1) (Ev.rd (Ev.cast (Ev.compF S.e R0 ?n1 (dsrc:=.list (st.log.map (jI (zU p)))) ?n2 st.log (jI (zU p)) (zj.list _) (zBP (zU p) (ofString "one") (ofString "other") (ofString "text") (ofString "k")) (fun e => e.1 == has && e.2.2.1.isSome) (fun e => xT (zU p) e.2.2.1) ?n3 (yo fun _ => by kernel_rfl) (by rw [sizeLine_eq]; omega) ?n5 ?n6) (congrArg D.list (KU F has)))) (zN.ne hol hol) rfl) (by rw [yc hol]; rfl)
     clear hol
     case n1 => k_extra "kd"
     case n2 => k_extra "z"
     case n3 => exact fun e _ => wu.tuple [(ofString "one",_),(ofString "other",_),(ofString "text",_),(ofString "k",_)] rfl (by decide) (by k_extra "kd") rfl
     case n5 => k_extra "fs"
     case n6 =>
      intro e he env' h' M' kx hE
      obtain ⟨a,b,o,z⟩:=e
      refine ⟨xl.one (Tv.and_cons (Tv.cmp (M:=M') R0 ?t1 ?t2 (zN.eqN _ _) rfl) fun _ => Tv.cast (Tv.and_cons (Tv.cmp (M:=M') (da:=xT (zU p) o) (db:=.none) R0 ?t3 ?t4 (zN.isNot (b:=o.isNone) ?t6) rfl) fun _ => Tv.and_nil) ?t7),fun _ => ?t5⟩
      case t1 | t2 | t3 | t4 | t5 => k_extra "z"
      case t6 | t7 => cases o <;> rfl
     case g1 =>
      obtain ⟨gf,gfd,g1,g2,g3⟩:=H.le.hdr.gall
      have w2:=HW.low3 has f3
      have e2:=HW.hd.n2 has f3
      refine' Ev.imeth (rs:=[.dat (.str (ww (zU p has)))]) S.e ?qo hI H.le.hdr.cls g1 g2 H.le.hdr.nga H.le.hdr.nge Vg (if_neg (by decide)) (.cons (r:=.dat (.str (ww (zU p has)))) ?qa .nil fun _ => rfl) ?hcall rfl
      case qo => k_extra "z"
      case qa =>
       refine' Ev.meth (T := "str") S.e R0 (Ev.rd (Ev.item (xs:=(List.range 16).map fun n => .str (zU p n)) (i:=(has : Int)) ?y1 ?y2 (by omega) (by omega) (xZ (zU p) f3))) rfl PySem.F.plainAttrs_str PySem.F.slot_str_swapcase PySem.F.type_str_swapcase .nil rfl (by decide) rfl (zG.swapcase _ w2.2)
       case y1 | y2 => k_extra "z"
      case hcall =>
       intro x vs s₂ E2 Q2 X1 old2 X2 rx rvs hq
       refine zP.use1 rvs fun v1 r1 => ?_
       refine V5 H.le.hdr g2 g3 (ys:=zq (zU p) st.tab) (nm:=ww (zU p has)) (R.le (by decide)) X2 old2 hI rx r1 ((S.e.mem Lh _ yY).ext X1) (by rw [length_map]; omega) w2.1 ?h1 ?h2 (fun y hy => ?h3) fun v s3 k3 rv => hq v s3 k3 ?h4
       case h1 => rw [wk (HW.ascii has f3)]; exact e2.1
       case h2 => rw [wk (HW.ascii has f3)]; exact e2.2
       case h3 =>
        obtain ⟨t,ht,rfl⟩:=mem_map.mp hy
        have h16:=(F.turn t ht).1
        unfold wJ
        dsimp only
        split
        · exact HW.low2 _ h16
        · exact HW.hd.low _ h16
       case h4 => rw [Qv HW (fun t ht => (F.turn t ht).1) f3] at rv; exact rv
theorem Vi (l : List Str) : yD (wv eS l) = (l.map yD).flatten:=by
 have g : ∀ (l : List Str) (a : Array Nat),(l.foldl (fun acc p => acc ++ eS.cps ++ p.cps) a).toList = a.toList ++ (l.map yD).flatten:=by
  intro l
  induction l with
  | nil => intro a; simp
  | cons x l ih =>
   intro a
   rw [foldl_cons,ih,toList_append,toList_append,map_cons,List.flatten_cons,show eS.cps.toList = [] from (by decide +kernel : yD eS = [])]
   simp [yD]
 match l with
 | [] => show yD empty = []; decide +kernel
 | [x] => simp [wv]
 | x :: y :: l =>
  show (((y :: l).foldl (fun acc p => acc ++ eS.cps ++ p.cps) x.cps)).toList = _
  rw [g]; rfl
noncomputable def WX (n : Nat) : List Nat:=(List.range 4).filter (ZA n)
noncomputable def Qm (n : Nat) : List Nat:=(List.range 4).filter fun k => n.testBit k
theorem zAY : ∀ n : Fin 16,∀ k : Fin 4,(ZA n k == n.val.testBit k) = true:=by decide +kernel
theorem Xl {n : Nat} (h : n < 16) : WX n = Qm n:=filter_congr fun k hk => by
 have:=zAY ⟨n,h⟩ ⟨k,mem_range.mp hk⟩
 rw [beq_iff_eq] at this; exact this
noncomputable def ZQ (p k : Nat) : Str:=ofString "... " ++ (zo p).getD k eS ++ xX
noncomputable def Wa (p k : Nat) : Str:=zn ++ (zo p).getD k eS ++ ofString ",..."
noncomputable def j8 (n : Nat) : List Nat:=zf (WX n) none none (some (-1))
noncomputable def Vz (p n : Nat) : Str:=wv eS ((j8 n).map (ZQ p)) ++ v8
noncomputable def Jl (p n : Nat) : Str:=ye p n ++ v8 ++ ye p n
noncomputable def JW (p k : Nat) : List Nat:=[46,46,46,32] ++ ZY p k ++ [44]
noncomputable def W3 (p k : Nat) : List Nat:=[32] ++ ZY p k ++ [44,46,46,46]
noncomputable def Q7 (p n : Nat) : List Nat:=((Qm n).reverse.map (JW p)).flatten ++ jr
theorem YB {p k : Nat} (hk : k < 4) : yD (ZQ p k) = JW p k:=by
 unfold ZQ JW; rw [yP,yP,Yq hk]; rfl
theorem Xd {p k : Nat} (hk : k < 4) : yD (Wa p k) = W3 p k:=by
 unfold Wa W3; rw [yP,yP,Yq hk]; rfl
theorem zAw : ∀ n : Fin 16,(zf (Qm n) none none (some (-1)) == (Qm n).reverse) = true:=by decide +kernel
theorem YK {n : Nat} (hn : n < 16) : j8 n = (Qm n).reverse:=by
 have:=zAw ⟨n,hn⟩
 rw [beq_iff_eq] at this
 unfold j8; rw [Xl hn]; exact this
theorem Qj {n k : Nat} (h : k ∈ Qm n) : k < 4:=mem_range.mp (mem_filter.mp h).1
theorem KC {n k : Nat} (hn : n < 16) (h : k ∈ j8 n) : k < 4:=by rw [YK hn] at h; exact Qj (mem_reverse.mp h)
theorem YQ {p n : Nat} (hn : n < 16) : yD (Vz p n) = Q7 p n:=by
 unfold Vz Q7
 rw [yP,Vi,Xf,YK hn,map_map]
 congr 2
 exact map_congr_left fun k hk => YB (Qj (mem_reverse.mp hk))
noncomputable def Ww (n k : Nat) : Bool:=QK (.list ((zf (WX n) none (some 1) none).map zC)) (.list [zC k])
noncomputable def Z9 (n k : Nat) : Bool:=QK (.list ((zf (WX n) (some (-1)) none none).map zC)) (.list [zC k])
theorem zBX : ∀ n : Fin 16,∀ k : Fin 4,(Ww n k == ((Qm n).head? == some k.val) && Z9 n k == ((Qm n).getLast? == some k.val)) = true:=by decide +kernel
theorem zAI : ∀ p : Fin 10,∀ n : Fin 16,(xk (Q7 p n) && decide ((Q7 p n).length ≤ 500) && xk (wG p n ++ jr ++ wG p n) && (WM (Q7 p n) (wG p n) == decide ((Qm n).length < 2)) && !WM (wG p n ++ jr ++ wG p n) (wG p n)) = true:=by decide +kernel
theorem Jy : ∀ p : Fin 10,∀ n : Fin 16,∀ k : Fin 4,((WM (W3 p k) (wG p n) == ((Qm n).head? == some k.val)) && (WM (JW p k) (wG p n) == ((Qm n).getLast? == some k.val))) = true:=by decide +kernel
theorem Kn : ∀ p : Fin 10,∀ k : Fin 4,(xk (W3 p k) && xk (JW p k)) = true:=by decide +kernel
structure zCK (p n : Nat) : Prop where
 rev : v6 (Vz p n) (ye p n) = decide (((WX n).length : Int) < 2)
 revFit : xb (Vz p n) (ye p n) = true
 two : v6 (Jl p n) (ye p n) = false
 twoFit : xb (Jl p n) (ye p n) = true
 len : (wv eS ((j8 n).map (ZQ p))).length ≤ 500
 top : ∀ k,k < 4 → v6 (Wa p k) (ye p n) = Ww n k
 last : ∀ k,k < 4 → v6 (ZQ p k) (ye p n) = Z9 n k
 sFit : ∀ k,k < 4 → xb (Wa p k) (ye p n) = true ∧ xb (ZQ p k) (ye p n) = true
theorem zCL {p n : Nat} (Fp : xV p) (hn : n < 16) : zCK p n:=by
 have hp:=Fp.lt
 have h:=zAI ⟨p,hp⟩ ⟨n,hn⟩
 simp only [and_eq_true,beq_iff_eq,decide_eq_true_eq,not_eq_true'] at h
 obtain ⟨⟨⟨⟨h1,h2⟩,h3⟩,h4⟩,h5⟩:=h
 have htl:=ZX Fp hn
 have c2 : yD (Jl p n) = wG p n ++ jr ++ wG p n:=by unfold Jl; rw [yP,yP,xr hp hn,Xf]
 have s:=fun k (hk : k < 4) => Jy ⟨p,hp⟩ ⟨n,hn⟩ ⟨k,hk⟩
 have q:=fun k (hk : k < 4) => zBX ⟨n,hn⟩ ⟨k,hk⟩
 have f:=fun k (hk : k < 4) => Kn ⟨p,hp⟩ ⟨k,hk⟩
 simp only [and_eq_true,beq_iff_eq] at s q f
 refine ⟨?_, ?_, ?_, ?_, ?_,fun k hk => ?_,fun k hk => ?_,fun k hk => ⟨?_, ?_⟩⟩
 · rw [Xe,YQ hn,xr hp hn,h4,Xl hn,decide_eq_decide]; omega
 · exact xm (by rw [wX,YQ hn]; exact h1) htl
 · rw [Xe,c2,xr hp hn]; exact h5
 · exact xm (by rw [wX,c2]; exact h3) htl
 · rw [← YQ hn,yA] at h2
   have:=h2
   unfold Vz at this
   rw [Str.length_append] at this
   omega
 · rw [Xe,Xd hk,xr hp hn,(s k hk).1,(q k hk).1]
 · rw [Xe,YB hk,xr hp hn,(s k hk).2,(q k hk).2]
 · exact xm (by rw [wX,Xd hk]; exact (f k hk).1) htl
 · exact xm (by rw [wX,YB hk]; exact (f k hk).2) htl
theorem KM : ∀ p : Fin 10,∀ n : Fin 16,yG eS ((j8 n).map (ZQ p)) = true:=by decide +kernel
theorem js (n : Nat) : (WX n).length ≤ 4:=by
 have:=length_filter_le (ZA n) (List.range 4)
 rw [length_range] at this
 exact this
theorem Qd (n : Nat) (h : n < 16) : (j8 n).length ≤ 4:=by
 rw [YK h,List.length_reverse,← Xl h]; exact js n
theorem YN {p k : Nat} {xp yp pos : Pos} (S : En prog w B names env h M ρ μ) (Fp : xV p) (hk : k < 4) (hm : vW p ∈ ρ) (hn : (ofString "k",RV.dat (zC k)) ∈ ρ) :
  Ev prog w A h (.Subscript (.Name (ofString "words") xp) (.Name (ofString "k") yp) pos) env (PR prog w M (.str ((zo p).getD k eS))) :=
 Ev.rd (Ev.item (xs:=(zo p).map .str) (i:=(k : Int)) (Ev.rd (Ev.name S hm (by decide))) (Ev.rd (Ev.name S hn (by decide))) (by omega) (by omega) (Yi (by rw [Fp.len]; exact hk)))
theorem Jm (H : yt prog w B mg mb C N mN) (R : Rm A 3) {bk : D} {Ld : Addr} {p : Nat} {pg : List (Nat × Nat)} {dr : List Nat} {sums : List Int} {st : LS} (hdl : dr.length ≤ 5) (hd16 : ∀ r ∈ dr,r < 16) (Fp : xV p)
  (S : St prog w B s₀ Own₀ M₀ zK env Own M (Zm bk Ld p pg dr sums st) μ s)
  (hQ : ∀ s',St prog w B s₀ Own₀ M₀ zK env Own M (Zm bk Ld p pg dr sums st) μ s' → wpAny (model prog w) A (execs ((zB zv).drop 21) env) Q E s') :
  wpAny (model prog w) A (execs ((zB zv).drop 20) env) Q E s:=by
 have R0 : Rm A 0:=R.le (zero_le _)
 have G:=H.le.hdr.G
 have hr:=H.le.range
 obtain ⟨ef,efd,HEl,hell⟩:=H.le.ell.call (prog:=prog) (w:=w)
 have d3 : v8.length = 3:=by decide +kernel
 have b1 : zn.length = 1:=rfl
 have c1 : xX.length = 1:=rfl
 show wpAny _ _ (execs (_ :: (zB zv).drop 21) env) _ _ _
 refine' xP (α:=Nat) (σ:=Unit) S R0 ?qv (dsrc:=.list (dr.map zC)) dr zC (zj.list _) (fun r => [(ofString "row",.dat (zC r))]) ?asg ?fs
  (fun _ => Zm bk Ld p pg dr sums st) (fun _ => μ) (fun _ _ => True) (fun _ _ _ => False) () trivial ?rho rfl ?off ?turn ?done (fun _ _ _ h _ => h.elim)
 case qv => clear hell; k_extra "z"
 case asg => exact fun y _ => wu.name (by k_extra "kd")
 case fs => k_extra "fs"
 case rho => k_extra "sub"
 case off => intro c y; k_extra "kd"
 case done =>
  intro c s' _ S'
  exact zD (hQ s' S')
 case turn =>
  clear S hQ
  intro i row c M' s₁ hi _ hMM S
  have h16:=hd16 row (mem_of_getElem? hi)
  have Rf:=zCL Fp h16
  clear hi c hMM
  have hs:=Fp.short row h16
  have e1:=hell _ _ Rf.revFit
  have e2:=hell _ _ Rf.twoFit
  rw [Rf.rev] at e1
  rw [Rf.two] at e2
  have e3:=fun k hk => hell _ _ (Rf.sFit k hk).1
  have e4:=fun k hk => hell _ _ (Rf.sFit k hk).2
  have hW:=fun k (hk : k < 4) => of_decide_eq_true (Zx ⟨p,Fp.lt⟩ ⟨k,hk⟩)
  dsimp only at hW
  have hjl:=Rf.len
  have htop:=Rf.top
  have hlast:=Rf.last
  clear Rf hell
  show wpAny _ _ (execs (_ :: _ :: _ :: _ :: _ :: []) env) _ _ _
  refine' z7 (d:=.str (ye p row)) S ?a1 ?a2 rfl ?a3
  case a2 => k_extra "kd"
  case a1 =>
   clear e1 e2 e3 e4
   refine' Ev.bin (da:=.str (zn ++ zU p row)) (db:=.str xX) S.e (Ev.rd (Ev.bin (da:=.str zn) (db:=.str (zU p row)) S.e (Ev.rd (Ev.const_str _ _ _)) (Ev.rd (Ev.item (xs:=(List.range 16).map fun n => .str (zU p n)) (i:=(row : Int)) ?y1 ?y2 (by omega) (by omega) (xZ (zU p) h16))) (yC.addS _ _ ?y3))) (Ev.rd (Ev.const_str _ _ _)) (yC.addS _ _ ?y4)
   case y1 | y2 => k_extra "z"
   case y3 => rw [sizeLine_eq,b1]; omega
   case y4 => rw [sizeLine_eq,Str.length_append,b1,c1]; omega
  case a3 =>
   k_extra "next"
   refine' ku S ?b1 R0 ?b2 (dsrc:=.rng 0 (4 : Nat) 1) ?b3 (List.range 4) (fun n : Nat => .int n) (zj.nat (by decide)) (ZA row) zC ?b4 ?b5 ?b6 ?b7 ?b8
   case b1 | b2 | b4 => k_extra "kd"
   case b3 => clear e1 e2 e3 e4; k_extra "z"
   case b5 => rw [length_range,sizeLine_eq]; decide
   case b6 => k_extra "fs"
   case b7 =>
    clear e1 e2 e3 e4
    intro k hk env' h' M' kx hE
    have hk:=mem_range.mp hk
    refine ⟨xl.one ?t1,fun _ => ?t2⟩
    case t1 =>
     refine' Tv.plain (Ev.rd (Ev.bin (da:=.int ((row : Int).fdiv (2 ^ k))) (db:=.int 1) hE (Ev.rd (Ev.bin (da:=.int row) (db:=.int k) hE ?u1 ?u2 (yC.shr _ _ ?u3))) ?u4 (yC.and _ _))) (ym.int _) rfl
     case u1 | u2 | u4 => k_extra "z"
     case u3 => k_extra "o"
    case t2 => k_extra "z"
   case b8 =>
    k_extra "next"
    rw [show ((List.range 4).filter (ZA row)).map zC = (WX row).map zC from rfl] at S
    refine' z7 (d:=.str (Vz p row)) S ?c1 ?c2 rfl ?c3
    case c2 => k_extra "kd"
    case c1 =>
     clear e1 e2 e3 e4
     refine' Ev.bin (da:=.str (wv eS ((j8 row).map (ZQ p)))) (db:=.str v8) S.e (Ev.rd (Ev.meth (T := "str") (dr:=.str eS) (ds:=[.list (((j8 row).map (ZQ p)).map .str)]) S.e R0 ?f1 rfl PySem.F.plainAttrs_str PySem.F.slot_str_join PySem.F.type_str_join (yy.cons (Ev.rd (Ev.cast (Ev.comp1 S.e R0 ?g1 (dsrc:=.list ((j8 row).map zC)) ?g2 (j8 row) zC (zj.list _) (fun k => .str (ZQ p k)) ?g3 ?g4 ?g5 ?g6) ?g7)) .nil fun _ => rfl) rfl (by decide) rfl (zG.join eS _ (KM ⟨p,Fp.lt⟩ ⟨row,h16⟩)))) (Ev.rd (Ev.const_str _ _ _)) (yC.addS _ _ ?f2)
     case f1 => k_extra "z"
     case f2 => rw [sizeLine_eq,d3]; omega
     case g1 | g3 => k_extra "kd"
     case g2 =>
      refine' Ev.rd (Ev.cast (Ev.slice (xs:=(WX row).map zC) (lo:=none) (hi:=none) (st:=some (-1)) S.e ?v1 zY.none zY.none ?v2 (by decide) ?v3) ?v4)
      case v1 | v2 => k_extra "z"
      case v3 => have:=js row; rw [length_map,sizeLine_eq]; omega
      case v4 => rw [yz]; rfl
     case g4 => have:=Qd row h16; rw [sizeLine_eq]; omega
     case g5 => k_extra "fs"
     case g7 => rw [map_map]; rfl
     case g6 =>
      intro k hk env' h' M' kx hE
      have hk:=KC h16 hk
      have hwk:=hW k hk
      have d4 : (ofString "... ").length = 4:=by decide +kernel
      refine' Ev.bin (da:=.str (ofString "... " ++ (zo p).getD k eS)) (db:=.str xX) hE (Ev.rd (Ev.bin (da:=.str (ofString "... ")) (db:=.str ((zo p).getD k eS)) hE (Ev.rd (Ev.const_str _ _ _)) (YN hE Fp hk ?y1 ?y2) (yC.addS _ _ ?y3))) (Ev.rd (Ev.const_str _ _ _)) (yC.addS _ _ ?y4)
      case y1 | y2 => k_extra "mem"
      case y3 => rw [sizeLine_eq,d4]; omega
      case y4 => rw [sizeLine_eq,Str.length_append,d4,c1]; omega
    case c3 =>
     k_extra "next"
     have htl : (ye p row).length ≤ 102:=by unfold ye; rw [Str.length_append,Str.length_append,b1,c1]; omega
     refine' wb S ?p1 ?p2
     case p1 =>
      refine' Tv.cast (Tv.or_cons (a:=false) (b:=false) (Tv.cmp (da:=.bool (decide (((WX row).length : Int) < 2))) (db:=.bool (decide (((WX row).length : Int) < 2))) R0 (Ev.rd (Ev.call S.e (R.le (by decide : 1 ≤ 3)) (Ev.glob G S.e ?u1 (.inl HEl.g) (by decide)) HEl.keepy (yy.cons ?u2 (yy.cons ?u3 .nil fun _ => rfl) fun _ => rfl) e1)) (Ev.rd (Ev.cast (Ev.cmp (da:=.int ((((WX row).map zC).length : Nat) : Int)) (db:=.int 2) R0 (Ev.rd (Ev.lenOf H R0 S.e ?u4 ?u5 ?u6 fun _ => rfl)) ?u7 (zN.lt _ _) rfl) (by rw [length_map]))) (zN.isNot (b:=true) (Q3 _)) rfl) fun _ =>
       Tv.cast (Tv.or_cons (a:=false) (b:=false) (Tv.cmp (da:=.bool false) (db:=.bool false) R0 (Ev.rd (Ev.call S.e (R.le (by decide : 1 ≤ 3)) (Ev.glob G S.e ?w1 (.inl HEl.g) (by decide)) HEl.keepy (yy.cons (Ev.rd ?w2) (yy.cons ?w3 .nil fun _ => rfl) fun _ => rfl) e2)) ?w4 (zN.isNot (b:=true) rfl) rfl) fun _ => Tv.or_nil) rfl) rfl
      case u1 | u5 | w1 => k_extra "kd"
      case u4 => have:=js row; rw [length_map]; omega
      case u2 | u3 | u6 | u7 | w3 | w4 => clear e1 e2 e3 e4; k_extra "z"
      case w2 =>
       clear e1 e2 e3 e4
       refine' Ev.bin (da:=.str (ye p row ++ v8)) (db:=.str (ye p row)) S.e (Ev.rd (Ev.bin (da:=.str (ye p row)) (db:=.str v8) S.e ?y1 (Ev.rd (Ev.const_str _ _ _)) (yC.addS _ _ ?y2))) ?y3 (yC.addS _ _ ?y4)
       case y1 | y3 => k_extra "z"
       case y2 => rw [sizeLine_eq,d3]; omega
       case y4 => rw [sizeLine_eq,Str.length_append,d3]; omega
     case p2 =>
      clear e1 e2
      k_extra "next"
      refine' wb S ?m1 fun s' S' => zD ⟨(),_,_,S'.sub ?m2,trivial⟩
      case m2 => k_extra "sub"
      case m1 =>
       refine' Tv.cast (Tv.cmp (da:=.list []) (db:=.list []) R0 (Ev.rd (Ev.cast (Ev.comp1F S.e R0 ?n1 (dsrc:=.rng 0 (4 : Nat) 1) ?n2 (List.range 4) (fun n : Nat => .int n) (zj.nat (by decide)) (fun _ => false) zC ?n3 ?n4 ?n5 ?n6) ?n7)) ?n8 (zN.ne rfl rfl) rfl) rfl
       case n1 | n3 => k_extra "kd"
       case n2 | n8 => clear e3 e4; k_extra "z"
       case n4 => rw [length_range,sizeLine_eq]; decide
       case n5 => k_extra "fs"
       case n7 => rw [List.filter_eq_nil_iff.mpr fun _ _ => by simp]; rfl
       case n6 =>
        clear S
        intro k hk env' h' M' kx hE
        have hk:=mem_range.mp hk
        have hwk:=hW k hk
        have q3:=e3 k hk
        have q4:=e4 k hk
        rw [htop k hk] at q3
        rw [hlast k hk] at q4
        clear e3 e4 htop hlast hW
        have okT : ∀ (l : List Nat),xz 8 (.list (l.map zC)) = true:=vK
        have d4 : (ofString "... ").length = 4:=by decide +kernel
        have d5 : (ofString ",...").length = 4:=by decide +kernel
        refine ⟨xl.one (Tv.cast (Tv.or_cons (a:=false) (b:=false) (Tv.cmp (da:=.bool (Ww row k)) (db:=.bool (Ww row k)) R0 (Ev.rd (Ev.call hE (R.le (by decide : 1 ≤ 3)) (Ev.glob G hE ?u1 (.inl HEl.g) (by decide)) HEl.keepy (yy.cons (Ev.rd ?u2) (yy.cons ?u3 .nil fun _ => rfl) fun _ => rfl) q3)) (Ev.rd (Ev.cmp R0 (Ev.rd (Ev.cast (Ev.slice (xs:=(WX row).map zC) (lo:=none) (hi:=some 1) (st:=none) hE ?v1 zY.none ?v2 zY.none (by decide) ?v3) (d':=.list ((zf (WX row) none (some 1) none).map zC)) ?v4)) ?v5 (zN.eq (okT _) (db:=.list [zC k]) rfl) rfl)) (zN.isNot (b:=true) (Q3 _)) rfl) fun _ =>
         Tv.cast (Tv.or_cons (a:=false) (b:=false) (Tv.cmp (da:=.bool (Z9 row k)) (db:=.bool (Z9 row k)) R0 (Ev.rd (Ev.call hE (R.le (by decide : 1 ≤ 3)) (Ev.glob G hE ?w1 (.inl HEl.g) (by decide)) HEl.keepy (yy.cons (Ev.rd ?w2) (yy.cons ?w3 .nil fun _ => rfl) fun _ => rfl) q4)) (Ev.rd (Ev.cmp R0 (Ev.rd (Ev.cast (Ev.slice (xs:=(WX row).map zC) (lo:=some (-1)) (hi:=none) (st:=none) hE ?x1 ?x2 zY.none zY.none (by decide) ?x3) (d':=.list ((zf (WX row) (some (-1)) none none).map zC)) ?x4)) ?x5 (zN.eq (okT _) (db:=.list [zC k]) rfl) rfl)) (zN.isNot (b:=true) (Q3 _)) rfl) fun _ => Tv.or_nil) rfl) rfl),fun hf => by cases hf⟩
        clear q3 q4
        case u1 | w1 => k_extra "kd"
        case u3 | w3 | v1 | v2 | v5 | x1 | x2 | x5 => k_extra "z"
        case v3 | x3 => have:=js row; rw [length_map,sizeLine_eq]; omega
        case v4 | x4 => rw [yz]
        case u2 =>
         refine' Ev.bin (da:=.str (zn ++ (zo p).getD k eS)) (db:=.str (ofString ",...")) hE (Ev.rd (Ev.bin (da:=.str zn) (db:=.str ((zo p).getD k eS)) hE (Ev.rd (Ev.const_str _ _ _)) (YN hE Fp hk ?y1 ?y2) (yC.addS _ _ ?y3))) (Ev.rd (Ev.const_str _ _ _)) (yC.addS _ _ ?y4)
         case y1 | y2 => k_extra "mem"
         case y3 => rw [sizeLine_eq,b1]; omega
         case y4 => rw [sizeLine_eq,Str.length_append,b1,d5]; omega
        case w2 =>
         refine' Ev.bin (da:=.str (ofString "... " ++ (zo p).getD k eS)) (db:=.str xX) hE (Ev.rd (Ev.bin (da:=.str (ofString "... ")) (db:=.str ((zo p).getD k eS)) hE (Ev.rd (Ev.const_str _ _ _)) (YN hE Fp hk ?y1 ?y2) (yC.addS _ _ ?y3))) (Ev.rd (Ev.const_str _ _ _)) (yC.addS _ _ ?y4)
         case y1 | y2 => k_extra "mem"
         case y3 => rw [sizeLine_eq,d4]; omega
         case y4 => rw [sizeLine_eq,Str.length_append,d4,c1]; omega
noncomputable def xQ : Str:=ofString "Control characters not allowed in headers"
theorem Yu {M' : Model} {l l₁ : List Env} {L e t0 : Addr} {cls : String} {args : List Value} {h₁ : Heap} {E : Value → Shared → Prop} {Q : Unit → Shared → Prop} (hfr : A.frames = some (env :: l)) (hf : env.frame = some L) (F : vd h₁ l₁ (env :: l) e cls t0 args s.heap)
  (hQ : ∀ h',vd h₁ l₁ l e cls t0 args h' → Q () { s with heap:=h' }) : wpAny M' A (leaving env (.ref e)) Q E s:=by
 obtain ⟨f,u,t⟩:=F
 exact wpAny_leaves_onW hfr hf f fun h' f' u' => hQ h' ⟨f',u.trans u',t.of_slots u'⟩
theorem WV (H : vr B mg mb C N mN) (hve : mg "ValueError" = none ∧ mb "ValueError" = some (.type "ValueError")) {f : Addr} {fd : FuncData} (HF : zw B (xC 1) f fd) (hb : ∀ s a v k,BindsTo s fd ⟨[a,v],[(ofString "name",k)]⟩ [(ofString "self",a),(ofString "value",v),(ofString "name",k)])
   {M₁ : Addr → Prop} {a v kv : Value} {x : Str} {b : Bool} {l : List Env} {Q E : Value → Shared → Prop} (R : Rm A 1) (X : zS B s.heap) (hold : ∀ a,M₁ a → ∃ o,s.heap.get? a = some o) (rv : Rp prog w s.heap M₁ v (.str x)) (rk : Rp prog w s.heap M₁ kv (.bool b))
   (hx : xo (if b then za else zm) x = true) (hs : x.cps.size < 2 ^ 63) (hfr : A.frames = some l) (ok : yN s.heap l)
   (hX : ∀ h₁ h' tk e t0 tt l₁,zS s.heap h₁ → (∀ a ∈ xA l₁,a ∈ xA l ∨ s.heap.get? a = none) → vd h₁ l₁ l e "ValueError" t0 [.str xQ tt] h' → E (.ref e) { s with heap:=h',toks:=tk }) :
   wpAny (model prog w) A (PySem.call (.ref f) [a,v] [(ofString "name",kv)]) Q E s:=by
 obtain ⟨o,ho,hd',_⟩:=HF.get
 have G:=H.G
 refine wpAny_call (jV (M₀:=M₁) (Own₀:=fun a => False) (B:=B) (μ₀:=[]) (args:=⟨[a,v],[(ofString "name",kv)]⟩) (ρ₀:=[(ofString "value",.dat (.str x)),(ofString "name",.dat (.bool b))]) HF.ok R (X f o ho) hd' G.lim X (zi HF.code X) HF.body (hb s a v kv) (by simp only [map_cons,map_nil]; decide) ?_ hold (fun a z => z.elim) (fun x c e => by rw [HF.clo] at e; cases e) ?_ (fun a d hm => by cases hm) (by simp) ?_)
 · rw [HF.scope]; k_extra "kd"
 · refine all_cons ?_ (all_cons ?_ all_nil)
   · exact .inl ⟨v,yY,rv⟩
   · exact .inl ⟨kv,wM,rk⟩
 · intro env Own M s₁ hL R' hO hMM S
   rw [HF.scope] at S
   obtain ⟨L,rfl⟩:=hL
   obtain ⟨an,hn1,hn2⟩:=H.rn
   obtain ⟨av,hv1,hv2⟩:=H.rv
   have hty:=H.ty
   have hst:=H.st
   have hfresh : ∀ a,zO (zR (xC 1)).names (zW fd L f) a → s.heap.get? a = none:=fun a z => by
     rcases S.fresh a (S.fr a z) with z | z
     · exact z.elim
     · exact z
   refine' xn (b:=true) S ?it ?ik
   case it =>
     refine' Tv.cmp (da:=.typ "str") (db:=.typ "str") (b:=true) R' ?ql ?qr (zN.is rfl) rfl
     case ql =>
       refine' Ev.rd (Ev.call S.e R' ?qf ?K ?qx (zG.type x))
       case qf => k_extra "z"
       case K => exact Or.inl fun _ e => by cases e
       case qx => k_extra "z"
     case qr =>
       refine' (Ev.mono (Ev.glob (v:=.type "str") G S.e ?g1 (.inr hst) ?g2) fun h v e => .inl (e ▸ .typ _))
       case g1 | g2 => k_extra "kd"
   case ik =>
     k_extra "next"
     show wpAny _ _ (execs (_ :: _ :: _ :: []) _) _ _ _
     refine' Wg (r:=.val (.ref (if b then an else av))) S ?s1 ?s2 rfl ?s3
     case s2 => k_extra "kd"
     case s1 =>
       refine' Ev.ifExpR (b:=b) ?i1 ?i2 ?i3
       case i1 => k_extra "z"
       case i2 =>
        intro hb
        refine' Ev.mono (Ev.glob (v:=.ref an) G S.e ?h1 (.inl hn1) ?h2) fun h v e => ?h3
        case h1 | h2 => k_extra "kd"
        case h3 => rw [hb]; exact e
       case i3 =>
        intro hb
        refine' Ev.mono (Ev.glob (v:=.ref av) G S.e ?h1 (.inl hv1) ?h2) fun h v e => ?h3
        case h1 | h2 => k_extra "kd"
        case h3 => rw [hb]; exact e
     case s3 =>
       k_extra "next"
       have hP : wV B (if b = true then an else av) (if b = true then za else zm):=by
        cases b
        · exact hv2
        · exact hn2
       refine' xn (b:=true) S ?j1 ?j2
       case j1 =>
        refine' Tv.search S.e (code:=if b then za else zm) (x:=x) ?k1 ?k2 hP ?k3 hx hs (fun _ => rfl) ?k4
        case k1 => k_extra "mem"
        case k2 => k_extra "kd"
        case k3 => k_extra "z"
        case k4 => rfl
       case j2 =>
        k_extra "next"
        rw [if_pos rfl]
        show wpAny _ _ (execs (_ :: []) _) _ _ _
        refine wpAny_execs_cons ?_
        refine wpAny_Raise_call F.excCall_ValueError F.excRaise_ValueError R'.hh (by rfl) ?_
        refine Ev.glob (x:=ofString "ValueError") G S.e ?g1 (.inr hve) ?g2 s' _ _ (zS.refl _) fun u s₂ k₂ hu => ⟨hu, ?_⟩
        case g1 | g2 => k_extra "kd"
        refine vm (M:=M) (rs:=[.dat (.str xQ)]) (.cons ?x1 .nil fun _ => rfl) (ke k₂) fun vs s₃ k₃ rs => ?_
        case x1 => k_extra "z"
        refine zP.use1 rs fun v1 r1 => ?_
        obtain ⟨tt,rfl⟩:=Rp.str_inv r1
        refine ⟨rfl,by show (1 : Nat) ≤ sizeLine; rw [sizeLine_eq]; decide,fun h₄ e hm => ?_⟩
        have k13:=zA (zA S.keeps k₂) k₃
        have ok3 : yN s₃.heap (zW fd L f :: l):=by
          intro en he
          rcases mem_cons.mp he with rfl | he
          · refine ⟨by rw [S.e.n.fn]; decide,L, ?_⟩
            obtain ⟨m,o,es,ep,e,hd,_⟩:=S.f.ns
            exact ⟨o,rfl,ke (zA k₂ k₃) _ _ e,fun vs z => by rw [hd] at z; cases z⟩
          · obtain ⟨g1,L',o,g2,g3,g4⟩:=ok en he
            exact ⟨g1,L',o,g2,ke k13 _ _ g3,g4⟩
        refine WN (l:=l) (L:=L) (Around.frames_deeper hfr) rfl ok3 hm fun h5 t0 F => ?_
        obtain ⟨h6,tk6,e6,_⟩:=k13
        have:=hX s₃.heap h5 tk6 e t0 tt (zW fd L f :: l) (ke ⟨h6,tk6,e6,by assumption⟩) (fun a ha => ?_) F
        · rw [e6]; exact this
        · rcases mem_cons.mp (show a ∈ L :: xA l from ha) with rfl | ha
          · exact .inr (hfresh _ (.inl rfl))
          · exact .inl ha
theorem yN.ext {h h' : Heap} {l : List Env} (x : yN h l) (k : zS h h') : yN h' l:=x.to fun a o e _ => ⟨o,k a o e,rfl⟩
theorem Y5 {s s' : Shared} (k : Keeps s s') : ∃ h tk,s' = { s with heap:=h,toks:=tk }:=let ⟨h,t,e,_⟩:=k; ⟨h,t,e⟩
theorem XY (H : vr B mg mb C N mN) (hve : mg "ValueError" = none ∧ mb "ValueError" = some (.type "ValueError")) {names : zE} {ρ : List (Str × RV)} {μ : List (Addr × D)} {M : Addr → Prop} {Q E : Value → Shared → Prop} (S : En prog w B names env s.heap M ρ μ) (R : Rm A 1) {o e ke0 : Expr} {d : D} {L : Addr} {x : Str} {b : Bool} {apos pos kp : Pos} (I : wp prog w d C L)
  (ho : Ev prog w A s.heap o env (PS prog w M d)) (he : Ev prog w A s.heap e env (PS prog w M (.str x))) (hk : Ev prog w A s.heap ke0 env (PS prog w M (.bool b))) (hx : xo (if b then za else zm) x = true) (hs : x.cps.size < 2 ^ 63) {l : List Env} (hfr : A.frames = some l) (ok : yN s.heap l) {pl : Sem Bool}
  (hst : ∀ rest,starEach (e :: rest) env = (false,eval e env) :: starEach rest env)
  (hev : eval (.Call (.Attribute o (ofString "_convert_string_type") apos) [e] [⟨some (ofString "name"),ke0,kp⟩] pos) env = (do
   let ov ← eval o env
   standAt apos.atName
   let (f,first) ← holding [ov] (getMethod ov (ofString "_convert_string_type") pl)
   callWith pos f first (backTo pos (starEach [e] env)) (backToKw pos (keywordEach [⟨some (ofString "name"),ke0,kp⟩] env))))
  (hX : ∀ h₁ h' tk e t0 tt l₁,zS s.heap h₁ → (∀ a ∈ xA l₁,a ∈ xA l ∨ s.heap.get? a = none) → vd h₁ l₁ l e "ValueError" t0 [.str xQ tt] h' → E (.ref e) { s with heap:=h',toks:=tk }) :
  wpAny (model prog w) A (eval (.Call (.Attribute o (ofString "_convert_string_type") apos) [e] [⟨some (ofString "name"),ke0,kp⟩] pos) env) Q E s:=by
 obtain ⟨f,fd,hf,HF,hb⟩:=H.conv
 refine km (rs:=[.dat (.str x)]) (kr:=.dat (.bool b)) S ho I H.cls hf HF H.nga H.nge VJ (by rw [if_neg (by decide)]) (.cons he .nil hst) hk (hst []) (fun x' vs kv s' ks rx rs rk => ?_) hev
 refine zP.use1 rs fun v r => ?_
 refine WV H hve HF hb R (S.base.trans (ke ks)) (fun a m => by obtain ⟨o,e⟩:=S.old a m; exact ⟨o,ke ks a o e⟩) r rk hx hs hfr (ok.ext (ke ks)) fun h₁ h' tk e t0 tt l₁ X1 hl1 F => ?_
 have:=hX h₁ h' tk e t0 tt l₁ ((ke ks).trans X1) (fun a ha => (hl1 a ha).imp id (z9 ks)) F
 obtain ⟨h2,tk2,rfl⟩:=Y5 ks
 exact this
theorem WC (H : vr B mg mb C N mN) (hve : mg "ValueError" = none ∧ mb "ValueError" = some (.type "ValueError")) {f : Addr} {fd : FuncData} (HF : zw B (xC 16) f fd) (hb : ∀ (s : Shared) (a n v : Value) (M : Model) (A : Around) (E : Value → Shared → Prop) (Q : List (Str × Value) → Shared → Prop),
     Q [(ofString "self",a),(ofString "_name",n),(ofString "_value",v),(ofString "_params",.ref s.heap.objs.size)] { s with heap:=s.heap.push vv } → wpAny M A (bindArgs fd ⟨[a,n,v],[]⟩) Q E s)
   {M₁ : Addr → Prop} {a vn vt : Value} {d : D} {L : Addr} {rows : List D} {nm tx : Str} {l : List Env} {Q E : Value → Shared → Prop} (R : Rm A 2) (X : zS B s.heap) (hold : ∀ a,M₁ a → ∃ o,s.heap.get? a = some o)
   (I : wp prog w d C L) (ra : Rp prog w s.heap M₁ a d) (rn : Rp prog w s.heap M₁ vn (.str nm)) (rt : Rp prog w s.heap M₁ vt (.str tx)) (hc : zd prog w s.heap M₁ L (.list rows)) (hsys : B.get? sysModules ≠ none)
   (hbad : xo zm tx = true ∨ (zg zm tx = true ∧ xo za nm = true)) (hs : nm.cps.size < 2 ^ 63) (hs2 : tx.cps.size < 2 ^ 63) (hfr : A.frames = some l) (ok : yN s.heap l)
   (hX : ∀ h₁ h' tk e t0 tt l₁,zS s.heap h₁ → (∀ a ∈ xA l₁,a ∈ xA l ∨ s.heap.get? a = none) → vd h₁ l₁ l e "ValueError" t0 [.str xQ tt] h' → E (.ref e) { s with heap:=h',toks:=tk }) :
   wpAny (model prog w) A (PySem.call (.ref f) [a,vn,vt]) Q E s:=by
 have G:=H.G
 have kp : Keeps s { s with heap:=s.heap.push vv }:=zM s vv s.toks
 have hnD : ¬ M₁ s.heap.objs.size:=fun m => by obtain ⟨o,e⟩:=hold _ m; exact absurd (lt_size e) (lt_irrefl _)
 have hDs : (s.heap.objs.size == sysModules) = false:=by
   cases q : s.heap.objs.size == sysModules with
   | false => rfl
   | true =>
     exfalso
     cases e : B.get? sysModules with
     | none => exact hsys e
     | some o => have:=lt_size (X _ _ e); rw [beq_iff_eq.mp q] at this; exact absurd this (lt_irrefl _)
 obtain ⟨o,ho,hd',_⟩:=HF.get
 refine wpAny_call (Qw (s:={ s with heap:=s.heap.push vv }) (sa:=s) (args:=⟨[a,vn,vt],[]⟩) (M₀:=M₁) (Own₀:=fun _ => False) (B:=B) HF.ok R (X f o ho) hd' G.lim (X.trans (ke kp)) (zi HF.code X) HF.body (fun M A E Q hq => hb s a vn vt M A E Q hq) (by simp only [map_cons,map_nil]; decide) ?_ (fun b m => by obtain ⟨o,e⟩:=hold b m; exact ⟨o,ke kp b o e⟩) (fun b z => z.elim) (fun x c e => by rw [HF.clo] at e; cases e)
   [(ofString "self",.dat d),(ofString "_name",.dat (.str nm)),(ofString "_value",.dat (.str tx)),(ofString "_params",.dat (.ob s.heap.objs.size vv))] ?_ [(L,.list rows)] (fun b x m => by cases mem_singleton.mp m; exact hc.ext (ke kp)) (by simp) ?_)
 · rw [HF.scope]; k_extra "kd"
 · refine all_cons ?_ (all_cons ?_ (all_cons ?_ (all_cons ?_ all_nil)))
   · exact .inl ⟨a,.head _,ra.ext (ke kp)⟩
   · exact .inl ⟨vn,yY,rn.ext (ke kp)⟩
   · exact .inl ⟨vt,wM,rt.ext (ke kp)⟩
   · exact .inl ⟨_,qE,.ob (get?_push_size _ rfl) hnD⟩
 · intro env Own M s₁ hL R' hO hMM S
   rw [HF.scope] at S
   obtain ⟨Lf,rfl⟩:=hL
   have R0 : Rm (A.deeper (zW fd Lf f)) 0:=R'.le (zero_le _)
   have hfresh : s.heap.get? Lf = none:=by
     rcases S.fresh Lf (S.fr Lf (.inl rfl)) with z | z
     · exact z.elim
     · exact z9 kp z
   have QP : ∀ {Own M ρ μ s2},St prog w B { s with heap:=s.heap.push vv } (fun _ => False) M₁ (zR (xC 16)).names (zW fd Lf f) Own M ρ μ s2 → yN s2.heap (zW fd Lf f :: l):=by
     intro Own M ρ μ s2 S2 en he
     rcases mem_cons.mp he with rfl | he
     · refine ⟨by rw [S2.e.n.fn]; decide,Lf, ?_⟩
       obtain ⟨m,o,es,ep,e,hd,_⟩:=S2.f.ns
       exact ⟨o,rfl,e,fun vs z => by rw [hd] at z; cases z⟩
     · obtain ⟨g1,L',o,g2,g3,g4⟩:=ok en he
       exact ⟨g1,L',o,g2,ke (zA kp S2.keeps) _ _ g3,g4⟩
   have fin : ∀ {Own M ρ μ s2},St prog w B { s with heap:=s.heap.push vv } (fun _ => False) M₁ (zR (xC 16)).names (zW fd Lf f) Own M ρ μ s2 → ∀ h₁ h' tk e t0 tt l₁,zS s2.heap h₁ → (∀ a ∈ xA l₁,a ∈ xA (zW fd Lf f :: l) ∨ s2.heap.get? a = none) → vd h₁ l₁ l e "ValueError" t0 [.str xQ tt] h' → E (.ref e) { s2 with heap:=h',toks:=tk }:=by
     intro Own M ρ μ s2 S2 h₁ h' tk e t0 tt l₁ X1 hl1 F
     have k2:=zA kp S2.keeps
     have:=hX h₁ h' tk e t0 tt l₁ ((ke k2).trans X1) (fun a ha => ?_) F
     · obtain ⟨h3,tk3,rfl⟩:=Y5 k2
       exact this
     · rcases hl1 a ha with q | q
       · rcases mem_cons.mp (show a ∈ Lf :: xA l from q) with rfl | q
         · exact .inr hfresh
         · exact .inl q
       · exact .inr (z9 k2 q)
   refine' wC S ?nA ?nB ?nC ?nD
   case nB => k_extra "kd"
   case nC => rfl
   case nA => k_extra "z"
   clear S
   intro p s' hp S
   show wpAny _ _ (execs (_ :: _ :: _ :: []) _) _ _ _
   refine' xn (b:=!false) S ?it ?ik
   case it => k_extra "z"
   case ik =>
     k_extra "next"
     show wpAny _ _ (execs (_ :: _ :: []) _) _ _ _
     rcases hbad with hx2 | ⟨hx2,hx⟩
     · refine' vV (B:=B) (s₀:={ s with heap:=s.heap.push vv }) (Own₀:=fun _ => False) (M₀:=M₁) (names:=(zR (xC 16)).names) rfl ?u1 (XY (b:=false) H hve S.e R' I ?qo ?o2 ?kb hx2 hs2 (Around.frames_deeper hfr) (QP S) (fun _ => rfl) rfl fun h₁ h' tk e t0 tt l₁ X1 hl1 F => ?u2)
       case u1 => k_extra "kd"
       case qo | o2 | kb => k_extra "z"
       case u2 => exact Yu (Around.frames_deeper hfr) rfl F fun h2 F2 => fin S h₁ h2 tk e t0 tt l₁ X1 hl1 F2
     · refine' z7 (d:=.str tx) S ?sa ?sb rfl ?sd
       case sb => k_extra "kd"
       case sa =>
         refine' Ev.conv (b:=false) H S.e R' I ?qo ?o2 ?kb hx2 hs2 (fun _ => rfl) rfl
         case qo | o2 | kb => k_extra "z"
       case sd =>
         k_extra "next"
         k_extra "mut0"
         refine zD ?_
         show wpAny _ _ (execs (_ :: _ :: []) _) _ _ _
         refine' qB (a:=s.heap.objs.size) S R0 ?f1 ?f2 ?f3 hDs ?f4 ?f5
         case f1 => k_extra "mem"
         case f2 => k_extra "kd"
         case f3 => rfl
         case f4 => k_extra "fs"
         case f5 =>
           k_extra "next"
           rw [nil_append,nil_append] at S
           show wpAny _ _ (execs (_ :: []) _) _ _ _
           have hc0:=S.e.mem L _ yY
           refine xf S.e.n ?_ rfl
           refine wpAny_Call_method (T := "list") (id := "list.append") (by rfl) ?g1 (by rfl) ?g2 ?g3 ?g4 (Ev.hdrs H S.e I ?qo ?qb s' _ _ (zS.refl _) fun ov s2 k2 r => ?g5)
           case g1 => rfl
           case g2 => k_extra "pa"
           case g3 => k_extra "slot"
           case g4 => k_extra "mty"
           case qo => k_extra "z"
           case qb => rfl
           case g5 =>
            subst r
            have S2:=S.step k2
            have rr : Rd prog w s2.heap _ (.ref L) (.list rows):=.inr ⟨L,rfl,hc0.ext (ke k2)⟩
            refine ⟨(wE (T := "list") rfl rr).1,(wE (T := "list") rfl rr).2, ?_⟩
            refine PySem.Calls.callWith_builtin (by rfl) ?_
            refine evalArgs_plain (spliced_cons (Tuple_ (k:=0) (spliced_cons (XY (b:=true) H hve S2.e R' I ?po ?p2 ?pb hx hs (Around.frames_deeper hfr) (QP S2) (fun _ => rfl) rfl fun h₁ h' tk e t0 tt l₁ X1 hl1 F => ?u2))))
            case po | p2 | pb => clear S rr; k_extra "z"
            case u2 => exact Yu (Around.frames_deeper hfr) rfl F fun h2 F2 => fin S2 h₁ h2 tk e t0 tt l₁ X1 hl1 F2
noncomputable def xS : Str:=ofString "x"
noncomputable def ze (j : Nat) : Str:=⟨#[(List.range 33 ++ [127]).getD j 0]⟩
noncomputable abbrev vSg (j : Nat) : Str × RV:=(ofString "sign",.dat (.str (ze j)))
noncomputable def Yc (y : Str × Str) : D:=.tup [zy y,.str xQ]
noncomputable def vz (y : Str × Str) : Bool:=zg zm y.2 && zg za y.1
structure Kz (y : Str × Str) : Prop where
 s1 : y.1.cps.size < 2 ^ 63
 s2 : y.2.cps.size < 2 ^ 63
 join : yG jc [y.2] = true
 bad : vz y = false → xo zm y.2 = true ∨ (zg zm y.2 = true ∧ xo za y.1 = true)
noncomputable def zZ (j : Nat) : List (Str × Str):=[(xS,ze j),(ze j,xS)]
noncomputable def Xr : Str:=ofString "\t "
theorem YC : ∀ j : Fin 34,(decide ((List.range 33 ++ [127]).getD j 0 ≤ 1114111) && (zg zm (ze j) == inS (ze j) Xr) && (zg zm (ze j) || xo zm (ze j)) && (zg za (ze j) == (ze j == zn)) && (zg za (ze j) || xo za (ze j)) && yG jc [ze j]) = true:=by decide +kernel
theorem zBZ : (zg zm xS && zg za xS && yG jc [xS]) = true:=by decide +kernel
theorem zBb {j : Nat} (hj : j < 34) : ∀ y ∈ zZ j,Kz y:=by
 have h:=YC ⟨j,hj⟩
 have q:=zBZ
 simp only [and_eq_true,Bool.or_eq_true] at h q
 have z1 : (ze j).cps.size < 2 ^ 63:=by show 1 < 2 ^ 63; decide
 have z2 : xS.cps.size < 2 ^ 63:=by decide +kernel
 intro y hy
 unfold zZ at hy
 simp only [mem_cons,not_mem_nil,or_false] at hy
 rcases hy with rfl | rfl
 · refine ⟨z2,z1,h.2,fun e => ?_⟩
   unfold vz at e
   dsimp only at e
   rw [q.1.2,Bool.and_true] at e
   rcases h.1.1.1.2 with z | z
   · rw [z] at e; cases e
   · exact .inl z
 · refine ⟨z1,z2,q.2,fun e => ?_⟩
   unfold vz at e
   dsimp only at e
   rw [q.1.1,Bool.true_and] at e
   rcases h.1.2 with z | z
   · rw [z] at e; cases e
   · exact .inr ⟨q.1.1,z⟩
theorem JP {j : Nat} (hj : j < 34) : (if (!inS (ze j) Xr) = true then [zy (xS,ze j)] else []) ++ (if (ze j != zn) = true then [zy (ze j,xS)] else []) = ((zZ j).filter fun y => !vz y).map zy:=by
 have h:=YC ⟨j,hj⟩
 have q:=zBZ
 simp only [and_eq_true,beq_iff_eq] at h q
 unfold zZ
 rw [List.filter_cons,List.filter_cons,List.filter_nil]
 have e1 : vz (xS,ze j) = inS (ze j) Xr:=by unfold vz; rw [q.1.2,Bool.and_true]; exact h.1.1.1.1.2
 have e2 : vz (ze j,xS) = (ze j == zn):=by unfold vz; rw [q.1.1,Bool.true_and]; exact h.1.1.2
 rw [e1,e2]
 show (if _ then _ else _) ++ (if (!(ze j == zn)) = true then _ else _) = _
 by_cases a : (!inS (ze j) Xr) = true <;> by_cases b : (!(ze j == zn)) = true <;> simp only [a,b,if_true,if_false,map_cons,map_nil,nil_append,List.cons_append,false_eq_true]
theorem WS {E Q : Value → Shared → Prop} {a : Addr} {v : Value} {xs : List D} {d : D} (hs : xs.length ≤ sizeLine) (m : M a) (c : zd prog w s.heap M a (.list xs)) (r : Rp prog w s.heap M v d)
  (hQ : ∀ s',Xj [a] s s' → zd prog w s'.heap M a (.list (xs ++ [d])) → Q .none s') : wpAny (model prog w) A (PySem.call (.builtin "list.append") [.ref a,v]) Q E s:=by
 obtain ⟨us,p,q⟩:=c.list_inv
 refine wpAny_list_append_plain p (fun h' p' sb => hQ _ (vc sb) (.list (vs:=us ++ [_]) (by simpa using p') ((zH.to (yx sb m) q).append (.cons (Rp.to (yx sb m) r) .nil)))) ?_
 rw [size_toArray,q.length]; exact hs
theorem Jp (H : yt prog w B mg mb C N mN) (R : Rm A 3) {bk : D} {Ld : Addr} {p j : Nat} {pg : List (Nat × Nat)} {dr : List Nat} {sums : List Int} {st : LS} {t5 : Int} (hlen : sums.length ≤ 1000) (h5 : sums[5]? = some t5) (hj : (t5.fdiv 10).fmod 34 = (j : Int)) (hj34 : j < 34)
  (S : St prog w B s₀ Own₀ M₀ zK env Own M (Zm bk Ld p pg dr sums st) μ s)
  (hQ : ∀ s',St prog w B s₀ Own₀ M₀ zK env Own M [vSg j,(ofString "table",.dat bk),(ofString "laid",.adr Ld),vG pg,vD dr] μ s' → wpAny (model prog w) A (execs ((zB zv).drop 22) env) Q E s') :
  wpAny (model prog w) A (execs ((zB zv).drop 21) env) Q E s:=by
 have R0 : Rm A 0:=R.le (zero_le _)
 have G:=H.le.hdr.G
 have hr:=H.le.range
 have hli:=H.le.hdr.li
 have hz : (List.range 33 ++ [127]).getD j 0 ≤ 1114111:=by
  have h:=YC ⟨j,hj34⟩
  simp only [and_eq_true,decide_eq_true_eq] at h
  exact h.1.1.1.1.1
 show wpAny _ _ (execs (_ :: (zB zv).drop 22) env) _ _ _
 refine' z7 (d:=.str (ze j)) S ?a1 ?a2 rfl fun s' S' => hQ s' (S'.sub ?a3)
 case a2 => k_extra "kd"
 case a3 => k_extra "sub"
 case a1 =>
  refine' Ev.call S.e R0 (Ev.glob G S.e ?b1 (.inr H.chr) (by decide)) ?b2 (yy.cons (Ev.rd (Ev.item (xs:=(List.range 33).map zC ++ [zC 127]) (i:=(j : Int)) (d:=zC ((List.range 33 ++ [127]).getD j 0)) (Ev.rd (Ev.bin (da:=.list ((List.range 33).map zC)) (db:=.list [zC 127]) S.e (Ev.rd (Ev.call S.e R0 (Ev.glob G S.e ?c1 (.inr hli) (by decide)) ?c2 (yy.cons ?c3 .nil fun _ => rfl) (zG.listR 33 (by decide) (by decide) (by decide)))) ?c4 (yC.addL _ _ ?c5))) (Ev.rd (Ev.cast (Ev.bin (da:=.int (t5.fdiv 10)) (db:=.int 34) S.e (Ev.rd (Ev.bin (da:=.int t5) (db:=.int 10) S.e (Ev.rd (Ev.item (xs:=sums.map .int) (i:=5) ?d1 ?d2 (by decide) (by decide) ?d3)) ?d4 (yC.fdiv _ _ (by decide) (PyProof.noPylong_of_log2 (by decide +kernel))))) ?d5 (yC.mod _ _ (by decide) (PyProof.noPylong_of_log2 (by decide +kernel)))) (by rw [hj]))) (by omega) (by omega) ?b3)) .nil fun _ => rfl) (zG.chr _ hz)
  case b1 | c1 => k_extra "kd"
  case b2 | c2 | c3 | c4 | d1 | d2 | d4 | d5 => k_extra "z"
  case c5 => rw [length_map,length_range,sizeLine_eq]; decide
  case d3 => show (sums.map D.int)[5]? = _; rw [getElem?_map,h5]; rfl
  case b3 =>
   have : (List.range 33).map zC ++ [zC 127] = (List.range 33 ++ [127]).map zC:=by rw [map_append]; rfl
   rw [this,toNat_natCast,getElem?_map,getD_eq_getElem?_getD,getElem?_eq_getElem (by simp; omega)]; rfl
theorem St.landed (S : St prog w B s₀ Own₀ M₀ names env Own M ρ μ s) (hL : env.frame = some env.locals) {h₁ h5 : Heap} {l₁ : List Env} {tk : Nat} (X1 : zS s.heap h₁) (hl1 : ∀ a ∈ xA l₁,a ∈ xA [env] ∨ s.heap.get? a = none) (XO : YD l₁ h₁ h5) :
   St prog w B s₀ Own₀ M₀ names env Own M ρ μ { s with heap:=h5,toks:=tk }:=by
 refine S.xout hL ⟨fun a o n e => XO.1 a o (fun z => ?_) (X1 a o e),fun a o e n => XO.2 a o (X1 a o e) n⟩
 rcases hl1 a z with q | q
 · exact n q
 · rw [q] at e; cases e
theorem St.nameGoes {M' : Model} (S : St prog w B s₀ Own₀ M₀ names env Own M ρ μ s) {n : Str} {pos : Pos} {Q : Unit → Shared → Prop} (hn : names.lookup n = some .local) (hQ : ∀ s',St prog w B s₀ Own₀ M₀ names env Own M (YX n ρ) μ s' → Q () s') :
   wpAny M' A (do bindName env n .none; unbindBehindTheSuite env n pos) Q E s:=by
 obtain ⟨m,hns⟩:=S.f.ns
 refine wpAny_nameGoes_keeps (S.e.n.lo n hn) hns (by rw [S.e.n.fn]; rfl) fun h' v hn' sb => hQ _ (S.written ⟨⟨_,hn'⟩,fun x c hx e => ?_⟩ (fun a o na e => (sb.2 a fun z => na (.inl z)).trans e) fun x r hm => ?_)
 · obtain ⟨u,q⟩:=S.f.cell x c hx e
   exact ⟨u,q.sameBut sb fun e' => yi hns (e' ▸ q)⟩
 · have hm2:=mem_filter.mp hm
   obtain ⟨u,hu,hr⟩:=S.e.vars x r hm2.1
   refine ⟨u, ?_,hr⟩
   have hne : x ≠ n:=by simpa using hm2.2
   rcases hu with ⟨a,m',n₂,e⟩ | ⟨a,c,e,q⟩
   · refine .inl ⟨a,_,hn', ?_⟩
     rw [if_neg hne]
     obtain ⟨o,es,ep,h1,h2,h3,h4⟩:=hns
     obtain ⟨o',es',ep',g1,g2,g3,g4⟩:=n₂
     rw [h1] at g1; cases g1
     rw [h2] at g2; cases g2
     rw [← h4,g4]; exact e
   · exact .inr ⟨a,c,e,q.sameBut sb fun e' => yi hns (e' ▸ q)⟩
theorem qC (F : yu names env h) {a : Addr} (z : zO names env a) {o : Obj} (e : h.get? a = some o) : (∀ vs,o.data ≠ .fields vs) ∧ ∀ vs n,o.data ≠ .seq vs n:=by
 rcases z with rfl | ⟨x,hx,ec⟩
 · obtain ⟨m,o',es,ep,e',hd,_⟩:=F.ns
   rw [e] at e'; cases e'
   exact ⟨fun vs q => (by rw [hd] at q; cases q),fun vs n q => (by rw [hd] at q; cases q)⟩
 · obtain ⟨v,o',e',hd⟩:=F.cell x a hx ec
   rw [e] at e'; cases e'
   exact ⟨fun vs q => (by rw [hd] at q; cases q),fun vs n q => (by rw [hd] at q; cases q)⟩
noncomputable abbrev kQ (bk : D) (Ld Lx : Addr) (j : Nat) (pg : List (Nat × Nat)) (dr : List Nat) : List (Str × RV):=[(ofString "refused",.adr Lx),vSg j,(ofString "table",.dat bk),(ofString "laid",.adr Ld),vG pg,vD dr]
noncomputable abbrev w8 (Lx Ld Lh P Pr : Addr) (d d' : D) (c : List (Str × Str) × List (Str × Str)) : List (Addr × D):=[(Lx,.list (c.2.map Yc)),(Ld,zu c.1),(Lh,zu c.1),(P,d),(Pr,d')]
noncomputable def y0 (c : List (Str × Str) × List (Str × Str)) (y : Str × Str) : List (Str × Str) × List (Str × Str):=if vz y = true then (c.1 ++ [y],c.2) else (c.1,c.2 ++ [y])
theorem qO : ∀ (l : List (Str × Str)) (c : List (Str × Str) × List (Str × Str)),l.foldl y0 c = (c.1 ++ l.filter vz,c.2 ++ l.filter fun y => !vz y)
 | [],c => by simp
 | y :: l,c => by
  rw [foldl_cons,qO l]
  unfold y0
  by_cases h : vz y = true
  · rw [if_pos h,List.filter_cons_of_pos h,List.filter_cons_of_neg (by simp [h])]; simp
  · rw [if_neg h,List.filter_cons_of_neg h,List.filter_cons_of_pos (by simpa using h)]; simp
theorem Vp (H : yt prog w B mg mb C N mN) (R : Rm A 4) (hL : env.frame = some env.locals) (hfr : A.frames = some [env]) {bk : D} {Ld Lx Lh P Pr : Addr} {d d' : D} {j : Nat} {pg : List (Nat × Nat)} {dr : List Nat} (hI : wp prog w bk C Lh) {y : Str × Str} (F : Kz y) {c : List (Str × Str) × List (Str × Str)} (l1 : c.1.length ≤ 100) (l2 : c.2.length ≤ 100)
  (o1 : Own Lx) (o2 : Own Ld) (o3 : Own Lh)
  (S : St prog w B s₀ Own₀ M₀ zK env Own M ((ofString "pair",.dat (zy y)) :: kQ bk Ld Lx j pg dr) (w8 Lx Ld Lh P Pr d d' c) s)
  (hQ : ∀ s',St prog w B s₀ Own₀ M₀ zK env Own M (kQ bk Ld Lx j pg dr) (w8 Lx Ld Lh P Pr d d' (y0 c y)) s' → Q .next s') :
  wpAny (model prog w) A (execs (YZ ((zB zv).getD 23 W8)) env) Q E s:=by
 have R0 : Rm A 0:=R.le (zero_le _)
 have G:=H.le.hdr.G
 obtain ⟨gf,gfd,g1,g2,g3⟩:=H.le.hdr.addh
 have it : ∀ (h : Heap) (i : Int) (k : Nat) (x : Str) (p q : Pos) (e : Expr),En prog w B zK env h M ((ofString "pair",.dat (zy y)) :: kQ bk Ld Lx j pg dr) (w8 Lx Ld Lh P Pr d d' c) → Ev prog w A h e env (PR prog w M (.int i)) → seqIndex? i 2 = some k → ([D.str y.1,D.str y.2] : List D)[k]? = some (.str x) → -(2 ^ 63) ≤ i → i < 2 ^ 63 → Ev prog w A h (.Subscript (.Name (ofString "pair") p) e q) env (PS prog w M (.str x)):=by
  intro h i k x p q e hE he hj hx h0 h1
  refine' Ev.itemT (xs:=[.str y.1,.str y.2]) ?qv he h0 h1 hj hx
  case qv => exact Ev.rd (Ev.name hE (d:=zy y) (.head _) (by decide))
 show wpAny _ _ (execs (_ :: []) env) _ _ _
 refine wpAny_execs_cons (wpAny_Try_except ?_)
 show wpAny _ _ (execs (_ :: _ :: []) _) _ _ _
 refine' xf S.e.n (kL (rs:=[.dat (.str y.1),.dat (.str y.2)]) S.e ?qo hI H.le.hdr.cls g1 g2 H.le.hdr.nga H.le.hdr.nge VP (if_neg (by decide)) (.cons (r:=.dat (.str y.1)) (it s.heap 0 0 y.1 _ _ _ S.e ?i0 rfl rfl (by decide) (by decide)) (.cons (r:=.dat (.str y.2)) (it s.heap 1 1 y.2 _ _ _ S.e ?i1 rfl rfl (by decide) (by decide)) .nil fun _ => rfl) fun _ => rfl) (fun x vs s₂ ks rx rvs => ?hq) rfl) rfl
 case qo | i0 | i1 => clear it; k_extra "z"
 case hq =>
  refine zP.use2 rvs fun w1 w2 q1 q2 => ?_
  have S₂:=S.step ks
  cases hb : vz y
  · have hgo : y0 c y = (c.1,c.2 ++ [y]):=by unfold y0; rw [hb]; rfl
    rw [hgo] at hQ
    clear it
    have efr : xA [env] = [env.locals]:=by simp [xA,hL]
    have hout : yN s₂.heap [env]:=by
      intro en he
      cases mem_singleton.mp he
      refine ⟨by rw [S₂.e.n.fn]; decide,env.locals, ?_⟩
      obtain ⟨m,o,es,ep,e,hd,_⟩:=S₂.f.ns
      exact ⟨o,hL,e,fun vs z => by rw [hd] at z; cases z⟩
    refine WC H.le.hdr H.verr g2 g3 (M₁:=M) (rows:=c.1.map zy) (nm:=y.1) (tx:=y.2) (R.le (by decide)) S₂.e.base S₂.e.old hI rx q1 q2 (S₂.e.mem Lh _ wM) H.le.sys (F.bad hb) F.s1 F.s2 hfr hout fun h₁ h' tk e t0 tt l₁ X1 hl1 FA => ?_
    have hXB : zS B (hideAll h₁ (xA l₁)):=fun a o e1 => by
      have e2:=S₂.e.base a o e1
      refine hideAll_get _ (X1 a o e2) fun z => ?_
      rcases hl1 a z with q | q
      · rw [efr] at q
        cases mem_singleton.mp q
        rw [S₂.base _ (S₂.fr _ (.inl rfl))] at e1; cases e1
      · rw [q] at e2; cases e2
    refine JF (L:=env.locals) hfr hL FA (isSubtype_of_subB (by decide +kernel)) (isSubtype_of_subB (by decide +kernel)) (isSubtype_of_subB (by decide +kernel)) ?_ ?_
    · intro s' E' Q' X' hq
      exact Wx G S₂.e.n (hXB.trans X') (by k_extra "kd") (.inr H.verr) (by decide) hq
    · intro h5 XO hex htp E'
      have S5:=S₂.landed (tk:=tk) hL X1 hl1 XO
      refine yO S5.e.n S5.f (.inl (by k_extra "kd")) fun h6 tk6 F6 hv6 hy6 hk6 => ?_
      have S6:=S5.written (tk:=tk6) F6 (fun a o n e => (hk6 a n).trans e) (ρ':=(ofString "wrong",.val (.ref e)) :: (ofString "pair",.dat (zy y)) :: kQ bk Ld Lx j pg dr) fun y' u hm => by
        rcases mem_cons.mp hm with e2 | hm
        · cases e2
          exact ⟨_,hv6,rfl⟩
        · obtain ⟨u',hu,hr'⟩:=S5.e.vars y' u hm
          refine ⟨u',hy6 y' u' (fun q => ?_) hu,hr'⟩
          subst q
          exact JH (by k_extra "kd") hm
      have x6 : h6.ExcAt e "ValueError" (.ref t0):=by
        obtain ⟨o,vs,ho,hc,hd,hv⟩:=hex
        exact ⟨o,vs,(hk6 e fun z => (qC S5.f z ho).1 _ hd).trans ho,hc,hd,hv⟩
      have t6 : h6.TupAt t0 [.str xQ tt]:=by
        obtain ⟨o,n,ho,hc,hd⟩:=htp
        exact ⟨o,n,(hk6 t0 fun z => (qC S5.f z ho).2 _ _ hd).trans ho,hc,hd⟩
      clear S S₂ S5
      show wpAny _ _ (execs (_ :: []) _) _ _ _
      have hc0:=S6.e.mem Lx _ kR
      refine xf S6.e.n ?_ rfl
      refine wpAny_Call_method (T := "list") (id := "list.append") (by rfl) ?k1 (by rfl) ?k2 ?k3 ?k4 (Ev.var (r:=.adr Lx) S6.e ?v1 ?v2 _ _ _ (zS.refl _) fun ov s2 k2 r => ?k5)
      case k1 => rfl
      case k2 => k_extra "pa"
      case k3 => k_extra "slot"
      case k4 => k_extra "mty"
      case v1 => k_extra "mem"
      case v2 => k_extra "kd"
      case k5 =>
        have r : ov = .ref Lx:=r
        subst r
        have S7:=S6.step k2
        have rr : Rd prog w s2.heap M (.ref Lx) (.list (c.2.map Yc)):=.inr ⟨Lx,rfl,hc0.ext (ke k2)⟩
        refine ⟨(wE (T := "list") rfl rr).1,(wE (T := "list") rfl rr).2, ?_⟩
        refine PySem.Calls.callWith_builtin (by rfl) ?_
        refine evalArgs_plain (spliced_cons (Tuple_ (k:=0) (spliced_cons (Ev.name (d:=zy y) S7.e ?n1 ?n2 _ _ _ (zS.refl _) fun v1 s3 k3 r3 => spliced_cons ?n3))))
        case n1 => k_extra "mem"
        case n2 => k_extra "kd"
        case n3 =>
          have S8:=S7.step k3
          refine' wh (f:=.type "str") (rs:=[.val (.ref e)]) S8.e (Ev.glob G S8.e ?c1 (.inr H.le.hdr.st) (by decide)) (.inl fun _ e => by cases e) (.cons (r:=.val (.ref e)) (Ev.var S8.e (.head _) ?c2) .nil fun _ => rfl) fun vs s9 k9 rs => ?c3
          case c1 | c2 => k_extra "kd"
          case c3 =>
           refine zP.use1 rs fun w1 q1 => ?_
           have q1 : w1 = .ref e:=q1
           subst q1
           have k29:=zA k2 (zA k3 k9)
           refine PySem.P.str_of_exc_one PySem.F.excStr_ValueError (by show A.units + 2 < 9900; have:=R.hu; omega) (by
            obtain ⟨o,vs,ho,hc,hd,hv⟩:=x6
            exact ⟨o,vs,ke k29 _ _ ho,hc,hd,hv⟩) (by
            obtain ⟨o,n,ho,hc,hd⟩:=t6
            exact ⟨o,n,ke k29 _ _ ho,hc,hd⟩) ?_
           have S9:=S8.step k9
           refine spliced_nil (wpAny_newObj_type (spliced_nil ?_) (by show (2 : Nat) ≤ sizeLine; rw [sizeLine_eq]; decide))
           have kp:=zM s9 { cls:=.type "tuple",data:=.seq [v1,.str xQ tt].toArray 0 } s9.toks
           have S10:=S9.step kp
           refine WS (M:=M) (xs:=c.2.map Yc) (d:=Yc y) (by rw [length_map,sizeLine_eq]; omega) (S10.own Lx o1) (S10.e.mem Lx _ kR) (kU (vs:=[v1,.str xQ tt]) (.cons (r3.ext (ke k9)) (.cons (.str _ _) .nil)) 0 (xY S9.e.old)) fun s11 ef c11 => ?_
           obtain ⟨h12,tk12,rfl,kk12⟩:=ef
           have S11:=S10.effect1 (pre:=[]) (post:=[(Ld,_),(Lh,_),(P,d),(Pr,d')]) (h':=h12) (tk:=tk12) rfl o1 (fun b o n e => kk12 b o (by simpa using n) e) c11
           refine zD ?_
           refine S11.nameGoes (by k_extra "kd") fun s13 S13 => ?_
           refine zD (hQ s13 ?_)
           unfold w8
           rw [map_append,map_cons,map_nil]
           exact S13.sub (by k_extra "sub")
  · have hgo : y0 c y = (c.1 ++ [y],c.2):=by unfold y0; rw [hb]; rfl
    rw [hgo] at hQ
    unfold vz at hb
    rw [and_eq_true] at hb
    refine ZS H.le.hdr g2 g3 (M₁:=M) (rows:=c.1.map zy) (nm:=y.1) (tx:=y.2) (R.le (by decide)) S₂.e.base S₂.e.old hI rx q1 q2 (S₂.own Lh o3) (S₂.base Lh o3) (S₂.e.mem Lh _ wM) (by rw [length_map]; omega) H.le.sys hb.2 F.s1 hb.1 F.s2 F.join fun s₃ ef c3 => ?_
    obtain ⟨h3,tk3,rfl,kk3⟩:=ef
    have S₃:=S₂.effect1 (pre:=[(Lx,_),(Ld,_)]) (post:=[(P,d),(Pr,d')]) (h':=h3) (tk:=tk3) rfl o3 (fun b o n e => kk3 b o (by simpa using n) e) c3
    clear S S₂ it
    show wpAny _ _ (execs (_ :: []) _) _ _ _
    refine' wm (pre:=[(Lx,_)]) (post:=[(Lh,_),(P,_),(Pr,_)]) (d:=zu c.1) (ds:=[zy y]) S₃ R0 ?m1 ?m2 rfl o2 rfl ?m3 ?m4 ?m5 ?m6 (by rfl) (by rfl) (wI.append _ _ ?m7) ?m8
    case m1 => k_extra "mem"
    case m2 => k_extra "kd"
    case m3 => k_extra "pa"
    case m4 => k_extra "slot"
    case m5 => k_extra "mty"
    case m6 =>
      refine .cons (Ev.name (d:=zy y) S₃.e ?x1 ?x2) .nil (fun _ => rfl)
      case x1 => k_extra "mem"
      case x2 => k_extra "kd"
    case m7 => rw [length_map,sizeLine_eq]; omega
    case m8 =>
      intro s' S'
      refine zD (zD (zD (hQ s' ?_)))
      unfold w8
      rw [kO]
      exact S'.sub (by k_extra "sub")
theorem Yp (j i : Nat) {y : Str × Str} (h : (zZ j)[i]? = some y) (c : List (Str × Str) × List (Str × Str)) : ((zZ j).take (i + 1)).foldl y0 c = y0 (((zZ j).take i).foldl y0 c) y:=by
 rw [take_add_one,h,foldl_append]; rfl
theorem Ve (j : Nat) (i : Nat) {l : List (Str × Str)} (hl : l.length ≤ 80) : (((zZ j).take i).foldl y0 (l,[])).1.length ≤ 100 ∧ (((zZ j).take i).foldl y0 (l,[])).2.length ≤ 100:=by
 rw [qO]
 have h1:=length_filter_le vz ((zZ j).take i)
 have h2:=length_filter_le (fun y => !vz y) ((zZ j).take i)
 have h3 : ((zZ j).take i).length ≤ 2:=by rw [length_take]; exact Nat.min_le_right _ _
 dsimp only
 rw [length_append,nil_append]
 omega
theorem Ju (H : yt prog w B mg mb C N mN) (R : Rm A 4) (hL : env.frame = some env.locals) (hfr : A.frames = some [env]) {bk : D} {Ld Lh P Pr : Addr} {d d' : D} {j : Nat} {pg : List (Nat × Nat)} {dr : List Nat} (hI : wp prog w bk C Lh) (hj : j < 34) {l : List (Str × Str)} (hl : l.length ≤ 80) (o2 : Own Ld) (o3 : Own Lh)
  (S : St prog w B s₀ Own₀ M₀ zK env Own M [vSg j,(ofString "table",.dat bk),(ofString "laid",.adr Ld),vG pg,vD dr] [(Ld,zu l),(Lh,zu l),(P,d),(Pr,d')] s)
  (hQ : ∀ Own' M' Lx s',(∀ b,Own b → Own' b) → (∀ b,M b → M' b) →
   St prog w B s₀ Own₀ M₀ zK env Own' M' (kQ bk Ld Lx j pg dr) (w8 Lx Ld Lh P Pr d d' (l ++ (zZ j).filter vz,(zZ j).filter fun y => !vz y)) s' → wpAny (model prog w) A (execs ((zB zv).drop 24) env) Q E s') :
  wpAny (model prog w) A (execs ((zB zv).drop 22) env) Q E s:=by
 have R0 : Rm A 0:=R.le (zero_le _)
 have G:=H.le.hdr.G
 have hmo:=S.more
 show wpAny _ _ (execs (_ :: _ :: (zB zv).drop 24) env) _ _ _
 refine' wC (d:=.list []) S ?a1 ?a2 rfl ?a3
 case a1 => k_extra "z"
 case a2 => k_extra "kd"
 case a3 =>
  clear S
  intro Lx s' hLx S
  refine' xP (α:=Str × Str) (σ:=List (Str × Str) × List (Str × Str)) S R0 ?qv (dsrc:=.tup ((zZ j).map zy)) (zZ j) zy (zj.tup _) (fun y => [(ofString "pair",.dat (zy y))]) ?asg ?fs
   (fun _ => kQ bk Ld Lx j pg dr) (w8 Lx Ld Lh P Pr d d') (fun i c => c = ((zZ j).take i).foldl y0 (l,[])) (fun _ _ _ => False) (l,[]) rfl ?rho rfl ?off ?turn ?done (fun _ _ _ h _ => h.elim)
  case qv =>
   refine' Ev.tuple S.e (.cons (d:=zy (xS,ze j)) (Ev.tuple S.e (.cons (d:=.str xS) ?t1 (.cons (d:=.str (ze j)) ?t2 .nil fun _ => rfl) fun _ => rfl) ?t3) (.cons (d:=zy (ze j,xS)) (Ev.tuple S.e (.cons (d:=.str (ze j)) ?t4 (.cons (d:=.str xS) ?t5 .nil fun _ => rfl) fun _ => rfl) ?t6) .nil fun _ => rfl) fun _ => rfl) ?t7
   case t1 | t5 => exact Ev.const_str _ _ _
   case t2 | t4 => k_extra "z"
   case t3 | t6 | t7 => show 2 ≤ _; rw [sizeLine_eq]; decide
  case asg => exact fun y _ => wu.name (by k_extra "kd")
  case fs => k_extra "fs"
  case rho => k_extra "sub"
  case off => intro c y; k_extra "kd"
  case turn =>
   clear S hQ
   intro i y c M' s₁ hy hc hMM S
   have hf:=Ve j i hl
   rw [← hc] at hf
   have hn:=Yp j i hy (l,[])
   rw [← hc] at hn
   exact Vp H R hL hfr hI (zBb hj y (mem_of_getElem? hy)) hf.1 hf.2 (.inr rfl) (.inl o2) (.inl o3) S fun s2 S2 => ⟨_,_,_,S2,hn.symm⟩
  case done =>
   clear S
   intro c s' hc S
   rw [show (zZ j).length = 2 from rfl,show (zZ j).take 2 = zZ j from rfl,qO] at hc
   rw [nil_append] at hc
   subst hc
   exact zD (hQ _ _ Lx s' (fun b m => .inl m) (fun b m => .inl m) S)
theorem YF {y : Str × Str} (h1 : PyData.strOk y.1 = true) (h2 : PyData.strOk y.2 = true) : ∀ n,xz (n + 2) (zy y) = true:=by
 intro n
 unfold zy
 simp only [xz,QP,Bool.true_and,List.all_cons,List.all_nil,Bool.and_true,h1,h2]
theorem WI : ∀ j : Fin 34,PyData.strOk (ze j) = true:=by decide +kernel
theorem okX : PyData.strOk xS = true ∧ PyData.strOk xQ = true:=by decide +kernel
theorem zBR (j : Nat) (hj : j < 34) : xz 8 (.list (((zZ j).filter fun y => !vz y).map Yc)) = true:=by
 rw [xq,all_eq_true]
 intro x hx
 obtain ⟨y,hy,rfl⟩:=mem_map.mp hx
 have hy:=(mem_filter.mp hy).1
 have h1:=WI ⟨j,hj⟩
 have h2:=okX
 have hr : xz 6 (zy y) = true:=by
  unfold zZ at hy
  simp only [mem_cons,not_mem_nil,or_false] at hy
  rcases hy with rfl | rfl
  · exact YF h2.1 h1 4
  · exact YF h1 h2.1 4
 unfold Yc
 show QP true (xz 6) _ = true
 simp only [QP,Bool.true_and,List.all_cons,List.all_nil,Bool.and_true,hr]
 show QP true (xz 5) (.str xQ) = true
 simpa [QP] using h2.2
theorem Ko (H : yt prog w B mg mb C N mN) (R : Rm A 3) {bk : D} {Ld Lx Lh P Pr : Addr} {d d' : D} {j : Nat} {pg : List (Nat × Nat)} {dr : List Nat} (hj : j < 34) {l : List (Str × Str)}
  (S : St prog w B s₀ Own₀ M₀ zK env Own M (kQ bk Ld Lx j pg dr) (w8 Lx Ld Lh P Pr d d' (l,(zZ j).filter fun y => !vz y)) s)
  (hQ : ∀ s',St prog w B s₀ Own₀ M₀ zK env Own M [(ofString "table",.dat bk),(ofString "laid",.adr Ld),vG pg,vD dr] (w8 Lx Ld Lh P Pr d d' (l,(zZ j).filter fun y => !vz y)) s' → wpAny (model prog w) A (execs ((zB zv).drop 26) env) Q E s') :
  wpAny (model prog w) A (execs ((zB zv).drop 24) env) Q E s:=by
 have R0 : Rm A 0:=R.le (zero_le _)
 have G:=H.le.hdr.G
 show wpAny _ _ (execs (_ :: _ :: (zB zv).drop 26) env) _ _ _
 refine' z7 (d:=.list (((zZ j).filter fun y => !vz y).map zy)) S ?a1 ?a2 rfl ?a3
 case a2 => k_extra "kd"
 case a1 =>
  refine' Ev.cast (Ev.bin (da:=.list (if (!inS (ze j) Xr) = true then [zy (xS,ze j)] else [])) (db:=.list (if (ze j != zn) = true then [zy (ze j,xS)] else [])) S.e (Ev.rd (Ev.bin S.e (Ev.rd (Ev.list S.e (.cons (d:=zy (xS,ze j)) (Ev.tuple S.e (.cons (d:=.str xS) ?t1 (.cons (d:=.str (ze j)) ?t2 .nil fun _ => rfl) fun _ => rfl) ?t3) .nil fun _ => rfl) ?t4)) (Ev.rd (Ev.cmp (da:=.str (ze j)) (db:=.str Xr) R0 ?t5 (Ev.rd (Ev.const_str _ _ _)) (zN.notInS _ _) rfl)) (yC.mulLB _ _ ?t6))) (Ev.rd (Ev.bin S.e (Ev.rd (Ev.list S.e (.cons (d:=zy (ze j,xS)) (Ev.tuple S.e (.cons (d:=.str (ze j)) ?u1 (.cons (d:=.str xS) ?u2 .nil fun _ => rfl) fun _ => rfl) ?u3) .nil fun _ => rfl) ?u4)) (Ev.rd (Ev.cmp (da:=.str (ze j)) (db:=.str zn) R0 ?u5 (Ev.rd (Ev.const_str _ _ _)) (zN.neS _ _) rfl)) (yC.mulLB _ _ ?u6))) (yC.addL _ _ ?v1)) (congrArg D.list (JP hj))
  case t1 | u2 => exact Ev.const_str _ _ _
  case t2 | u1 | t5 | u5 => k_extra "z"
  case t3 | u3 => show 2 ≤ _; rw [sizeLine_eq]; decide
  case t4 | u4 => show 1 ≤ _; rw [sizeLine_eq]; decide
  case t6 | u6 => show 1 ≤ 1000; decide
  case v1 =>
   rw [sizeLine_eq]
   have : ∀ (b : Bool) (x : D),(if b = true then [x] else []).length ≤ 1:=fun b x => by cases b <;> simp
   have h1:=this (!inS (ze j) Xr) (zy (xS,ze j))
   have h2:=this (ze j != zn) (zy (ze j,xS))
   omega
 case a3 =>
  k_extra "next"
  have ho:=zBR j hj
  refine' wb S ?p1 fun s' S' => hQ s' (S'.sub ?p2)
  case p2 => k_extra "sub"
  clear hQ
  refine' Tv.cast (Tv.cmp (da:=.list (((zZ j).filter fun y => !vz y).map Yc)) (db:=.list (((zZ j).filter fun y => !vz y).map Yc)) R0 (Ev.nameM S.e ?q1 (.head _) (by decide)) (Ev.rd (Ev.comp1 S.e R0 ?q2 (dsrc:=.list (((zZ j).filter fun y => !vz y).map zy)) ?q3 ((zZ j).filter fun y => !vz y) zy (zj.list _) Yc ?q4 ?q5 ?q6 ?q7)) (zN.ne ho ho) rfl) (by rw [yc ho]; rfl)
  clear ho
  case q1 => k_extra "mem"
  case q2 | q4 => k_extra "kd"
  case q3 => k_extra "z"
  case q5 =>
   have h1:=length_filter_le (fun y => !vz y) (zZ j)
   have h2 : (zZ j).length = 2:=rfl
   rw [sizeLine_eq]; omega
  case q6 => k_extra "fs"
  case q7 =>
   intro y hy env' h' M' kx hE
   exact Ev.tuple hE (.cons (d:=zy y) (Ev.name hE (.head _) (by decide)) (.cons (d:=.str xQ) (Ev.const_str _ _ _) .nil fun _ => rfl) fun _ => rfl) (by show 2 ≤ _; rw [sizeLine_eq]; decide)
theorem Wo : ∀ {l m : List (Nat × Nat)},l.Perm m → jo l → jo m → l = m
 | [],m,p,_,_ => (List.nil_perm.mp p).symm
 | a :: l,[],p,_,_ => by have:=p.length_eq; simp at this
 | a :: l,b :: m,p,hl,hm => by
  have hl:=pairwise_cons.mp hl
  have hm:=pairwise_cons.mp hm
  have : a = b:=by
   rcases mem_cons.mp (p.mem_iff.mp (.head _) : a ∈ b :: m) with e | e
   · exact e
   · rcases mem_cons.mp (p.mem_iff.mpr (.head _) : b ∈ a :: l) with q | q
     · exact q.symm
     · have h1:=hm.1 a e
       have h2:=hl.1 b q
       omega
  subst this
  rw [Wo ((List.perm_cons a).mp p) hl.2 hm.2]
noncomputable def rk (key : Nat → Nat) (n i : Nat) : Nat:=((List.range n).filter fun j => decide (key j < key i)).length
theorem Zs {p : Nat → Bool} {l : List Nat} {i : Nat} (hi : i ∈ l) (h : p i = false) : (l.filter p).length < l.length:=by
 refine Nat.lt_of_le_of_ne (length_filter_le _ _) fun e => ?_
 have:=List.length_filter_eq_length_iff.mp e i hi
 rw [h] at this; cases this
theorem zAA {key : Nat → Nat} {n i j : Nat} (hi : i < n) (h : key i < key j) : rk key n i < rk key n j:=by
 have e : (List.range n).filter (fun x => decide (key x < key i)) = ((List.range n).filter fun x => decide (key x < key j)).filter fun x => decide (key x < key i):=by
  rw [List.filter_filter]
  refine filter_congr fun x _ => ?_
  by_cases q : key x < key i
  · rw [decide_eq_true q,decide_eq_true (lt_trans q h)]; rfl
  · rw [decide_eq_false q]; rfl
 unfold rk
 rw [e]
 exact Zs (i:=i) (mem_filter.mpr ⟨mem_range.mpr hi,decide_eq_true h⟩) (decide_eq_false (lt_irrefl _))
theorem jS {key : Nat → Nat} {n i j : Nat} (hi : i < n) (hj : j < n) : rk key n i < rk key n j ↔ key i < key j:=by
 refine ⟨fun h => ?_,zAA hi⟩
 rcases Nat.lt_trichotomy (key i) (key j) with q | q | q
 · exact q
 · unfold rk at h; rw [q] at h; exact absurd h (lt_irrefl _)
 · have:=zAA hj q; omega
theorem Qz {key : Nat → Nat} {n i : Nat} (hi : i < n) : rk key n i < n:=by
 have:=Zs (p:=fun j => decide (key j < key i)) (mem_range.mpr hi) (decide_eq_false (lt_irrefl _))
 rwa [length_range] at this
theorem jG {α : Type} {n : Nat} {cmp cmp' : Nat → Nat → Bool} (h : ∀ i j,i < n → j < n → cmp i j = cmp' i j) : ∀ t : KasT α,xj n cmp t = xj n cmp' t
 | .ret a => rfl
 | .ask i j k => by
  rw [kh,kh]
  by_cases q : i < n ∧ j < n
  · rw [if_pos q,if_pos q,h i j q.1 q.2]; exact jG h _
  · rw [if_neg q,if_neg q]
noncomputable def VA (rl : List Nat) : Bool:=match xj rl.length (fun i j => decide (rl.getD i 0 < rl.getD j 0)) (kas_sort rl.length) with
 | some p => p.toList.all (fun i => decide (i < rl.length)) && decide (p.toList.map (fun i => rl.getD i 0) = List.range rl.length)
 | none => false
noncomputable def Zg (rl : List Nat) : Bool:=!decide rl.Nodup || VA rl
theorem zCC : ∀ a b : Fin 2,Zg [a.val,b.val] = true:=by decide +kernel
theorem zCI : ∀ a b c : Fin 3,Zg [a.val,b.val,c.val] = true:=by decide +kernel
theorem zB4 : ∀ a b c d : Fin 4,Zg [a.val,b.val,c.val,d.val] = true:=by decide +kernel
theorem zCD : ∀ a b c d e : Fin 5,Zg [a.val,b.val,c.val,d.val,e.val] = true:=by decide +kernel
theorem zAa {rl : List Nat} (h2 : 2 ≤ rl.length) (h5 : rl.length ≤ 5) (hn : rl.Nodup) (hl : ∀ x ∈ rl,x < rl.length) : VA rl = true:=by
 have fin : Zg rl = true → VA rl = true:=fun h => by
  unfold Zg at h
  rw [decide_eq_true hn] at h
  simpa using h
 refine fin ?_
 match rl,h2,h5,hl with
 | [a,b],_,_,hl => exact zCC ⟨a,hl a kR⟩ ⟨b,hl b yY⟩
 | [a,b,c],_,_,hl => exact zCI ⟨a,hl a kR⟩ ⟨b,hl b yY⟩ ⟨c,hl c wM⟩
 | [a,b,c,d],_,_,hl => exact zB4 ⟨a,hl a kR⟩ ⟨b,hl b yY⟩ ⟨c,hl c wM⟩ ⟨d,hl d qE⟩
 | [a,b,c,d,e],_,_,hl => exact zCD ⟨a,hl a kR⟩ ⟨b,hl b yY⟩ ⟨c,hl c wM⟩ ⟨d,hl d qE⟩ ⟨e,hl e WH⟩
 | _ :: _ :: _ :: _ :: _ :: _ :: _,_,h5,_ => simp at h5
theorem JG (dr : List Nat) {i j : Nat} (hi : i < 8) (hj : j < 8) : XG (dr.getD i 0 : Int) (i : Int) (dr.getD j 0 : Int) (j : Int) = decide (8 * dr.getD i 0 + i < 8 * dr.getD j 0 + j):=by
 unfold XG
 generalize dr.getD i 0 = a
 generalize dr.getD j 0 = b
 by_cases h : a = b
 · subst h
   rw [beq_self_eq_true,if_pos rfl]
   by_cases q : i = j
   · subst q; simp
   · rw [if_neg (by rw [beq_iff_eq]; omega),decide_eq_decide]; omega
 · rw [if_neg (by rw [beq_iff_eq]; omega),decide_eq_decide]; omega
theorem Qo {x y a b : Nat} (e : x = y) (f : a < b → x < y) (g : b < a → y < x) : a = b:=by
 rcases Nat.lt_trichotomy a b with h | h | h
 · exact absurd e (ne_of_lt (f h))
 · exact h
 · exact absurd e.symm (ne_of_lt (g h))
theorem zB8 {a b i j : Nat} (hj : j < 8) (q : 8 * a + i < 8 * b + j) : a < b ∨ a = b ∧ i < j:=by omega
theorem XM (dr : List Nat) (hl : dr.length ≤ 5) : ∃ is,WA (fun i => (dr.getD i 0 : Int)) dr.length is ∧ is.map (prD fun i => (dr.getD i 0 : Int)) = (xU dr).map zQ:=by
 by_cases h2 : dr.length < 2
 · refine ⟨List.range dr.length,.inl ⟨h2,rfl⟩, ?_⟩
   match dr,h2 with
   | [],_ => rfl
   | [a],_ => rfl
   | _ :: _ :: _,h2 => exact absurd h2 (by simp)
 · have h2 : 2 ≤ dr.length:=Nat.not_lt.mp h2
   have hp:=xt dr dr.length
   have hx:=ve dr dr.length
   have hdr : xU dr = v7 dr dr.length:=rfl
   rw [hdr]
   generalize hn : dr.length = n at *
   generalize hkey : (fun i => 8 * dr.getD i 0 + i) = key
   have hkv : ∀ i,key i = 8 * dr.getD i 0 + i:=fun i => by rw [← hkey]
   have hinj : ∀ i j,i < n → j < n → key i = key j → i = j:=fun i j hi hj e => by
     rw [hkv,hkv] at e
     have l8 : ∀ {x},x < n → x < 8:=fun h => lt_of_lt_of_le h (le_trans hl (by decide))
     have e:=congrArg (· % 8) e
     rwa [Nat.mul_add_mod,Nat.mul_add_mod,Nat.mod_eq_of_lt (l8 hi),Nat.mod_eq_of_lt (l8 hj)] at e
   have hget : ∀ i,i < n → ((List.range n).map (rk key n)).getD i 0 = rk key n i:=fun i hi => by
     rw [getD_eq_getElem?_getD,getElem?_map,getElem?_range hi]; rfl
   have hlen : ((List.range n).map (rk key n)).length = n:=by rw [length_map,length_range]
   have hrn : ((List.range n).map (rk key n)).Nodup:=by
     refine pairwise_map.mpr (List.Pairwise.imp_of_mem (fun {i j} hi hj ne e => ne ?_) List.nodup_range)
     have hi:=mem_range.mp hi
     have hj:=mem_range.mp hj
     refine hinj i j hi hj ?_
     have q1:=(jS (key:=key) hi hj).mpr
     have q2:=(jS (key:=key) hj hi).mpr
     exact Qo e q1 q2
   have hk:=zAa (rl:=(List.range n).map (rk key n)) (by rw [hlen]; exact h2) (by rw [hlen]; exact hl) hrn fun x hx => by
     obtain ⟨i,hi,rfl⟩:=mem_map.mp hx
     rw [hlen]; exact Qz (mem_range.mp hi)
   unfold VA at hk
   rw [hlen] at hk
   have hrun : xj n (fun i j => decide (((List.range n).map (rk key n)).getD i 0 < ((List.range n).map (rk key n)).getD j 0)) (kas_sort n) = xj n (fun i j => XG ((fun i => (dr.getD i 0 : Int)) i) (i : Int) ((fun i => (dr.getD i 0 : Int)) j) (j : Int)) (kas_sort n):=by
     refine jG (fun i j hi hj => ?_) _
     rw [hget i hi,hget j hj,JG dr (by omega) (by omega),decide_eq_decide,jS hi hj,hkv,hkv]
   rw [hrun] at hk
   split at hk
   · rename_i p hpe
     rw [and_eq_true,all_eq_true,decide_eq_true_eq] at hk
     obtain ⟨ha,hb⟩:=hk
     have ha : ∀ i ∈ p.toList,i < n:=fun i hi => of_decide_eq_true (ha i hi)
     have hb : p.toList.map (rk key n) = List.range n:=by
      rw [← hb]
      exact map_congr_left fun i hi => (hget i (ha i hi)).symm
     refine ⟨p.toList,.inr ⟨h2,p,hpe,rfl,ha⟩, ?_⟩
     have hnd : p.toList.Nodup:=by
      have : (p.toList.map (rk key n)).Nodup:=by rw [hb]; exact List.nodup_range
      exact List.Pairwise.imp (fun ne e => ne (by rw [e])) (pairwise_map.mp this)
     have hperm : p.toList.Perm (List.range n):=(List.perm_ext_iff_of_nodup hnd List.nodup_range).mpr fun i => by
      refine ⟨fun hi => mem_range.mpr (ha i hi),fun hi => ?_⟩
      have hi:=mem_range.mp hi
      have : rk key n i ∈ p.toList.map (rk key n):=by rw [hb]; exact mem_range.mpr (Qz hi)
      obtain ⟨i',h1,h2'⟩:=mem_map.mp this
      have hi':=ha i' h1
      have q1:=(jS (key:=key) hi hi').mpr
      have q2:=(jS (key:=key) hi' hi).mpr
      have : i' = i:=hinj i' i hi' hi (Qo h2' q2 q1)
      rw [← this]; exact h1
     have hlex : jo (p.toList.map fun i => (dr.getD i 0,i)):=by
      have h1 : (p.toList.map (rk key n)).Pairwise (· < ·):=by rw [hb]; exact List.pairwise_lt_range
      refine pairwise_map.mpr (List.Pairwise.imp_of_mem (fun {i j} hi hj q => ?_) (pairwise_map.mp h1))
      have q:=(jS (ha i hi) (ha j hj)).mp q
      rw [hkv,hkv] at q
      exact zB8 (lt_of_lt_of_le (ha j hj) (le_trans hl (by decide))) q
     rw [← Wo ((hperm.map _).trans hp.symm) hlex hx,map_map]
     rfl
   · cases hk
theorem k7 {x : Str} (h : yn (yD x) = true) : PyData.strOk x = true:=by
 show x.cps.all _ = true
 rw [Array.all_eq_true']
 intro c hc
 have:=of_decide_eq_true (all_eq_true.mp h c (Array.mem_toList_iff.mpr hc))
 exact decide_eq_true (by omega)
theorem zAn {p j : Nat} (N : JS (zU p)) (hj : j < 34) {st : LS} (ht : ∀ t ∈ st.tab,t.1 < 16 ∧ t.2.2 < 16) : ∀ y ∈ zq (zU p) st.tab ++ (zZ j).filter vz,PyData.strOk y.1 = true ∧ PyData.strOk y.2 = true:=by
 intro y hy
 rcases mem_append.mp hy with hy | hy
 · obtain ⟨t,htm,rfl⟩:=mem_map.mp hy
   obtain ⟨h1,h2⟩:=ht t htm
   refine ⟨?_,k7 (N.ascii _ h2)⟩
   unfold wJ
   dsimp only
   split
   · refine k7 ?_
     rw [yl (N.ascii _ h1)]
     exact jU (fun _ => kj) (N.ascii _ h1)
   · exact k7 (N.ascii _ h1)
 · have hy:=(mem_filter.mp hy).1
   unfold zZ at hy
   simp only [mem_cons,not_mem_nil,or_false] at hy
   rcases hy with rfl | rfl
   · exact ⟨okX.1,WI ⟨j,hj⟩⟩
   · exact ⟨WI ⟨j,hj⟩,okX.1⟩
theorem Ev.and3 {x y z : Expr} {p : Pos} (hx : Ev prog w A h x env (PS prog w M (.bool true))) (hy : Ev prog w A h y env (PS prog w M (.bool true))) (hz : Ev prog w A h z env (PS prog w M (.bool true))) :
  Ev prog w A h (.BoolOp .And [x,y,z] p) env (PS prog w M (.bool true)):=by
 intro s E Q k hQ
 show wpAny _ _ (do
  let v ← eval x env
  standAt p
  let t ← holding [v] (truthy v)
  match BoolOp.And,t with
  | .And,false | .Or,true => pure v
  | _,_ => eval (.BoolOp .And [y,z] p) env) _ _ _
 refine wpAny_bind (hx s E _ k fun v s₁ k₁ r => wpAny_bind (wpAny_standAt (wpAny_bind (wpAny_holding ?_))))
 cases r.bool_inv
 refine wpAny_truthy_bool ?_
 exact Ev.and2 (hy.ext (k.trans (ke k₁))) (ym.bool true) (fun _ => hz.ext (k.trans (ke k₁))) s₁ E Q (zS.refl _) fun v s₂ k₂ r => hQ v s₂ (zA k₁ k₂) r
theorem Ev.sortzip (H : yt prog w B mg mb C N mN) (R : Rm A 3) (S : En prog w B names env h M ρ μ) {dr : List Nat} (hl : dr.length ≤ 5) {f1 f2 f3 p1 p2 p3 p4 : Pos} {k : Nat} {e : Expr} (n1 : names.lookup (ofString "sorted") = some .globalImplicit) (n2 : names.lookup (ofString "zip") = some .globalImplicit) (n3 : names.lookup (ofString "range") = some .globalImplicit)
  (he : Ev prog w A h e env (PS prog w M (.list (dr.map zC)))) (hst : ∀ rest,starEach (e :: rest) env = (false,eval e env) :: starEach rest env) :
  Ev prog w A h (.Call (.Name (ofString "sorted") f1) [.Call (.Name (ofString "zip") f2) [e,.Call (.Name (ofString "range") f3) [.Constant (.int 5) k p4] [] p3] [] p2] [] p1) env (PS prog w M (.list ((xU dr).map zQ))):=by
 obtain ⟨is,h1,h2⟩:=XM dr hl
 rw [← h2]
 exact Ev.sortZ H.le.hdr.G H.zip H.sorted H.le.range (R.le (zero_le _)) S hl h1 n1 n2 n3 he hst
theorem Kk (H : yt prog w B mg mb C N mN) (R : Rm A 4) {bk : D} {Ld Lx Lh P Pr : Addr} {d d' : D} {p j : Nat} {dr : List Nat} {st : LS} {rf : List (Str × Str)} (hI : wp prog w bk C Lh) (Fp : xV p) (hj : j < 34) (hdl : dr.length ≤ 5) (hd16 : ∀ r ∈ dr,r < 16) (ht : ∀ t ∈ st.tab,t.1 < 16 ∧ t.2.2 < 16) (l3 : st.tab.length ≤ 80)
  (S : St prog w B s₀ Own₀ M₀ zK env Own M [(ofString "table",.dat bk),(ofString "laid",.adr Ld),vG (xU dr),vD dr] (w8 Lx Ld Lh P Pr d d' (zq (zU p) st.tab ++ (zZ j).filter vz,rf)) s)
  (hQ : ∀ ρ' s',St prog w B s₀ Own₀ M₀ zK env Own M ρ' (w8 Lx Ld Lh P Pr d d' (zq (zU p) st.tab ++ (zZ j).filter vz,rf)) s' → Q (.ret (.bool true)) s') :
  wpAny (model prog w) A (execs ((zB zv).drop 26) env) Q E s:=by
 have R0 : Rm A 0:=R.le (zero_le _)
 have G:=H.le.hdr.G
 have hor:=zAn (WL Fp) hj ht
 have hrl : (zq (zU p) st.tab ++ (zZ j).filter vz).length ≤ 100:=by
  have h1:=length_filter_le vz (zZ j)
  have h2 : (zZ j).length = 2:=rfl
  rw [length_append,length_map]; omega
 generalize zq (zU p) st.tab ++ (zZ j).filter vz = rows at S hQ hor hrl
 have ho1 : xz 8 (zu rows) = true:=by
  rw [xq,all_eq_true]
  intro x hx
  obtain ⟨y,hy,rfl⟩:=mem_map.mp hx
  exact YF (hor y hy).1 (hor y hy).2 5
 have ho2 : xz 8 (.list (rows.map fun y => .str y.2)) = true:=by
  rw [xq,all_eq_true]
  intro x hx
  obtain ⟨y,hy,rfl⟩:=mem_map.mp hx
  exact (hor y hy).2
 have ho3 : xz 8 (.list ((xU dr).map zQ)) = true:=by
  rw [xq,all_eq_true]
  intro x hx
  obtain ⟨y,hy,rfl⟩:=mem_map.mp hx
  rfl
 show wpAny _ _ (execs (_ :: []) env) _ _ _
 refine' xO (d:=.bool true) S (Ev.and3 ?x1 ?x2 ?x3) (fun v s' S' r => ?fin)
 case fin =>
  cases r.bool_inv
  exact hQ _ s' S'
 case x1 =>
  obtain ⟨gf,gfd,g1,g2,g3⟩:=H.le.hdr.items
  refine' Ev.cast (Ev.cmp (da:=zu rows) (db:=zu rows) R0 (Ev.rd (Ev.imeth (rs:=[]) S.e ?qo hI H.le.hdr.cls g1 g2 H.le.hdr.nga H.le.hdr.nge QW (if_neg (by decide)) .nil ?hcall rfl)) (Ev.nameM S.e yY yY (by decide)) (zN.eq ho1 ho1) rfl) (by rw [yc ho1])
  case qo => k_extra "z"
  case hcall =>
   intro x vs s₂ E2 Q2 X1 old2 X2 rx rvs hq
   cases rvs
   refine Xm H.le.hdr g2 g3 (rows:=rows.map zy) (R.le (by decide)) X2 old2 hI rx ((S.e.mem Lh _ wM).ext X1) (by rw [length_map]; omega) fun b s' ks n c => hq _ s' ks (c.rp_list (fun _ m => .inl m) fun m => ?_)
   obtain ⟨o,e⟩:=old2 b m
   rw [e] at n; cases n
 case x2 =>
  obtain ⟨gf,gfd,g1,g2,g3⟩:=H.le.hdr.vals
  refine' Ev.cast (Ev.cmp (da:=.list (rows.map fun y => .str y.2)) (db:=.list (rows.map fun y => .str y.2)) R0 (Ev.rd (Ev.imeth (rs:=[]) S.e ?qo hI H.le.hdr.cls g1 g2 H.le.hdr.nga H.le.hdr.nge jT (if_neg (by decide)) .nil ?hcall rfl)) (Ev.rd (Ev.compM S.e R0 ?b1 (dsrc:=zu rows) ?b2 rows zy (zj.list _) (fun y => [(ofString "name",.dat (.str y.1)),(ofString "text",.dat (.str y.2))]) (fun y => .str y.2) ?b3 (yo fun _ => by kernel_rfl) (by rw [sizeLine_eq]; omega) ?b5 ?b6)) (zN.eq ho2 ho2) rfl) (by rw [yc ho2])
  clear ho1 ho2 ho3 hor
  case qo => k_extra "z"
  case hcall =>
   intro x vs s₂ E2 Q2 X1 old2 X2 rx rvs hq
   cases rvs
   exact jP H.le.hdr g2 g3 (ys:=rows) (R.le (by decide)) X2 old2 hI rx ((S.e.mem Lh _ wM).ext X1) (by omega) hq
  case b1 => k_extra "kd"
  case b2 => exact Ev.nameM S.e yY yY (by decide)
  case b3 => exact fun y _ => Wp y (by decide) (by k_extra "kd")
  case b5 => k_extra "fs"
  case b6 =>
   intro y hy env' h' M' kx hE
   k_extra "z"
 case x3 =>
  refine' Ev.cast (Ev.cmp (da:=.list ((xU dr).map zQ)) (db:=.list ((xU dr).map zQ)) R0 ?g1 (Ev.rd (Ev.sortzip H (R.le (by decide)) S.e hdl ?n1 ?n2 ?n3 ?g2 fun _ => rfl)) (zN.eq ho3 ho3) rfl) (by rw [yc ho3])
  clear ho1 ho2 ho3 hor
  case g1 | g2 => k_extra "z"
  case n1 | n2 | n3 => k_extra "kd"
theorem JZ (H : yt prog w B mg mb C N mN) (R : Rm A 6) (hL : env.frame = some env.locals) (hfr : A.frames = some [env]) {P Pr sa : Addr} (T : Tb B mg env P (Zi env)) (hrun : vk B mg Pr) (hP0 : Own₀ P) (hPr : Own₀ Pr) {vs : List Value} {sc : List Int} (hB : B.IsList sa vs.toArray) (hi : IntsAre vs sc) (hsc : sc.length ≤ 63)
  (S : St prog w B s₀ Own₀ M₀ zK env Own M [(ofString "script",.val (.ref sa))] [(P,.obs P (tabObj #[]) []),(Pr,.obs Pr (tabObj #[]) [])] s)
  (hQ : ∀ Own' M' ρ' μ' s' ps os ps' os',St prog w B s₀ Own₀ M₀ zK env Own' M' ρ' μ' s' → (P,.obs P (tabObj ps) os) ∈ μ' → (Pr,.obs Pr (tabObj ps') os') ∈ μ' → Q (.ret (.bool true)) s') :
  wpAny (model prog w) A (execs (zB zv) env) Q E s:=by
 obtain ⟨ms,hms,hml,hmm⟩:=KI sc
 obtain ⟨o1,o2,o3⟩:=QT hmm
 have o4:=Kb hmm
 have hne : ms ≠ []:=fun e => by rw [e] at hml; cases hml
 have hrd:=zAe hmm o1
 have hrl:=J0 hmm hne o1
 rw [← hms] at o1 o2 o3 hrd hrl
 have hlen : (z0 sc).length = 6:=by rw [hms,length_map]; exact hml
 have hsz : (byteArr (xW (z0 sc))).size ≤ 1000:=by rw [byteArr_size]; omega
 have hsz2 : (KBy.picked (byteArr (xW (z0 sc))) none (some (-1))).size ≤ 1000:=le_trans (KBc.size_picked_le _ _ _) hsz
 obtain ⟨t5,h5⟩ : ∃ t5,(z0 sc)[5]? = some t5:=⟨_,getElem?_eq_getElem (by omega)⟩
 have hp0 : 0 ≤ t5.fmod 10 ∧ t5.fmod 10 < 10:=⟨Int.fmod_nonneg_of_pos _ (by decide),Int.fmod_lt_of_pos _ (by decide)⟩
 obtain ⟨p,hp⟩ : ∃ p : Nat,t5.fmod 10 = (p : Int):=⟨(t5.fmod 10).toNat,qN hp0.1⟩
 have hj0 : 0 ≤ (t5.fdiv 10).fmod 34 ∧ (t5.fdiv 10).fmod 34 < 34:=⟨Int.fmod_nonneg_of_pos _ (by decide),Int.fmod_lt_of_pos _ (by decide)⟩
 obtain ⟨j,hj⟩ : ∃ j : Nat,(t5.fdiv 10).fmod 34 = (j : Int):=⟨((t5.fdiv 10).fmod 34).toNat,qN hj0.1⟩
 have hj34 : j < 34:=by omega
 have Fp:=zBf (p:=p) (by omega)
 obtain ⟨dr,hdr,hd16,hdl⟩:=Jb (z0 sc)
 have hso : ∀ t ∈ z0 sc,0 ≤ t:=fun t ht => by
  rw [hms] at ht
  obtain ⟨m,_,rfl⟩:=mem_map.mp ht
  exact natCast_nonneg m
 have hpf:=QC dr
 have hps:=(ve dr dr.length).fst
 have hpl : (xU dr).length ≤ 100:=by rw [xU,Zy]; omega
 have hp16 : ∀ q ∈ xU dr,q.1 < 16:=fun q hq => hd16 _ (hpf.mem_iff.mp (mem_map.mpr ⟨q,hq,rfl⟩))
 have F:=lF hpf hps
 refine zBA H hB hi hsc (R.le (by decide)) hso o2 (by omega) S fun s1 S => ?_
 refine zAf H (R.le (by decide)) hL hfr hsz hrd h5 hp S fun s1 S => ?_
 refine @zAJ _ _ _ _ _ _ _ _ _ _ _ _ _ _ _ _ _ _ _ H (R.le (by decide)) _ _ _ Fp (by omega) S fun s1 S => ?_
 refine zAE H (R.le (by decide)) hL hfr Fp (by omega) hsz hsz2 hrl S fun s1 S => ?_
 refine zAj H (R.le (by decide)) (by omega) hdr S fun s1 S => ?_
 refine zAy H (R.le (by decide)) hd16 hdl T (S.own₀ P hP0) hP0 S fun Own1 M1 ps os s1 hP hT hOO hMM S => ?_
 refine zAc H (R.le (by decide)) Fp S fun s1 S => ?_
 generalize hst : yS ((xU dr).map Prod.fst) = st at F
 refine zAP H R Fp hpl hp16 hps hst hrun (S.own₀ Pr hPr) S fun Own2 M2 Ld Lh bk s1 ps' os' hI hOO2 hMM2 oLd oLh hne2 l1 l2 l3 S => ?_
 refine zAT H (R.le (by decide)) hdl S ?m1 fun s1 S => ?_
 case m1 => k_extra "mem"
 have S:=S.sub (ρ':=QI bk Ld p (xU dr) dr (z0 sc) st) (by k_extra "sub")
 refine J8 H (R.le (by decide)) hdl F l1 l2 S fun s1 S => ?_
 refine Kr H (R.le (by decide)) hI hdl hd16 Fp F l3 S fun s1 S => ?_
 refine Ks H (R.le (by decide)) hI hdl hd16 Fp F l1 l3 S fun s1 S => ?_
 refine Jm H (R.le (by decide)) hdl hd16 Fp S fun s1 S => ?_
 refine Jp H (R.le (by decide)) (by omega) h5 hj hj34 S fun s1 S => ?_
 refine Ju H (R.le (by decide)) hL hfr hI hj34 (by rw [length_map]; exact l3) oLd oLh S fun Own3 M3 Lx s1 hOO3 hMM3 S => ?_
 refine Ko H (R.le (by decide)) hj34 S fun s1 S => ?_
 exact Kk H (R.le (by decide)) hI Fp hj34 hdl hd16 (fun t ht => ⟨(F.turn t ht).1,hd16 _ (F.sub _ (mem_map.mpr ⟨t,ht,rfl⟩))⟩) l3 S fun ρ' s1 S => hQ _ _ _ _ _ _ _ _ _ S qE WH
theorem zBc {B : Heap} {x : FnS} (hf : fnO B x.f = some (.type "function",x.fd)) (hc : W2 B x.c = some x.q) (ok : Wr x.fd = true) : ∃ fd,zw B x.d x.f fd ∧ fd.defaults = x.dfl ∧ fd.kwdefaults = x.kwd ∧ fd.code = .ref x.c:=by
 unfold fnO at hf
 obtain ⟨o,ho,hf⟩:=bind_eq_some_iff.mp hf
 split at hf
 · rename_i fd hd
   have hf:=Option.some.inj hf
   have e2:=congrArg Prod.snd hf
   have h5 : fd.scope = zR x.d:=congrArg FuncData.scope e2
   have h7 : fd.closure = []:=congrArg FuncData.closure e2
   have h13 : fd.code = .ref x.c:=congrArg FuncData.code e2
   have okF:=Ql ok
   unfold W2 at hc
   obtain ⟨oc,hoc,hc⟩:=bind_eq_some_iff.mp hc
   refine ⟨fd,⟨⟨o,ho,hd,congrArg Prod.fst hf⟩, ?_,⟨congrArg FuncData.globals e2,congrArg FuncData.builtins e2, ?_, ?_, ?_, ?_, ?_, ?_⟩,congrArg FuncData.params e2,congrArg FuncData.body e2,h5,h7⟩,congrArg FuncData.defaults e2,congrArg FuncData.kwdefaults e2,h13⟩
   · rw [h13,show fd.qualname = x.q from congrArg FuncData.qualname e2]
     split at hc
     · rename_i vs hd
       split at hc
       · rename_i q t hv
         exact ⟨_,oc,vs,t,rfl,hoc,hd,hv.trans (by rw [Option.some.inj hc])⟩
       · cases hc
     · cases hc
   · rw [h5]; exact okF.fn
   · rw [h5]; exact okF.co
   · rw [h5]; exact okF.gen
   · rw [h5,h7]; exact okF.free
   · rw [h5]; exact okF.cell
   · intro y z c e; rw [h7] at e; cases e
 · cases hf
theorem zw.def {B : Heap} {mg : Str → Option Value} {name : Str} {d : Stmt} {f : Addr} {fd : FuncData} (H : zw B d f fd) (g : mg name = some (.ref f)) : zl B mg name d f fd :=
 ⟨g,by obtain ⟨o,e,q,_⟩:=H.get; exact ⟨o,e,q⟩,H.code,H.ok,H.args,H.body,H.scope,H.clo⟩
theorem Jc {B : Heap} {a : Addr} {code : Array Nat} (h : QG B a = some (.type "re.Pattern",none,0,0,code)) : wV B a code:=by
 unfold QG at h
 obtain ⟨o,ho,h⟩:=bind_eq_some_iff.mp h
 split at h
 · rename_i vs hd
   split at h
   · rename_i c h5
     split at h
     · rename_i oc its n x hoc
       simp only [Option.some.injEq,Prod.mk.injEq] at h
       exact ⟨o,vs,c,its,n,ho,h.1,h.2.1,hd,h.2.2.1,h.2.2.2.1,h5,⟨_,hoc,rfl⟩,h.2.2.2.2⟩
     · cases h
   · cases h
 · cases h
theorem zCG {α : Type} {l : List α} (h : l.length = 6) : ∃ a b c d e f,l = [a,b,c,d,e,f]:=by
 have E : ∀ {l : List α} {n : Nat},l.length = n + 1 → ∃ a r,l = a :: r ∧ r.length = n:=by
  intro l n h
  cases l with
  | nil => cases h
  | cons a r => exact ⟨a,r,rfl,Nat.succ.inj h⟩
 obtain ⟨a,l1,e1,h1⟩:=E h
 obtain ⟨b,l2,e2,h2⟩:=E h1
 obtain ⟨c,l3,e3,h3⟩:=E h2
 obtain ⟨d,l4,e4,h4⟩:=E h3
 obtain ⟨e,l5,e5,h5⟩:=E h4
 obtain ⟨f,l6,e6,h6⟩:=E h5
 exact ⟨a,b,c,d,e,f,by rw [e1,e2,e3,e4,e5,e6,List.eq_nil_of_length_eq_zero h6]⟩
theorem zBW (c : ClassData) {m : List Value} {N : Addr} {x y z : Bool} (h1 : c.mro = m) (h2 : c.ns = N) (h3 : c.hasDict = x) (h4 : c.abstract = y) (h5 : c.hasDel = z) : c = ⟨c.name,c.bases,m,N,c.qualname,x,c.slotNames,c.subclasses,y,c.collection,z⟩:=by
 subst h1 h2 h3 h4 h5; rfl
theorem zBL (o : Obj) {c : Value} {d : Data} {l : List (Option Value)} (h1 : o.cls = c) (h2 : o.data = d) (h3 : o.slots.toList = l) : o = ⟨c,o.dict,d,l.toArray⟩:=by
 subst h1 h2 h3; rfl
theorem zAl {B : Heap} {C N : Addr} {mN : Str → Option Value} (h : KB B C = some (.type "type",[.ref C,.type "object"],N,true,false,false,6,some (.builtin "object.__new__"))) (hN : B.Ns N mN) : ClsAt B C N mN:=by
 refine ⟨?_,hN⟩
 unfold KB at h
 obtain ⟨o,ho,h⟩:=bind_eq_some_iff.mp h
 split at h
 · rename_i c hd
   obtain ⟨h1,h⟩:=Prod.mk.inj (Option.some.inj h)
   obtain ⟨h2,h⟩:=Prod.mk.inj h
   obtain ⟨h3,h⟩:=Prod.mk.inj h
   obtain ⟨h4,h⟩:=Prod.mk.inj h
   obtain ⟨h5,h⟩:=Prod.mk.inj h
   obtain ⟨h6,h⟩:=Prod.mk.inj h
   obtain ⟨h7,h⟩:=Prod.mk.inj h
   obtain ⟨k0,k1,k2,k3,k4,k5,hs⟩:=zCG h7
   rw [hs] at h
   have h : k4 = some (.builtin "object.__new__"):=h
   rw [h] at hs
   exact ⟨_,_,_,_,_,_,_,k0,k1,k2,k3,k5,ho.trans (congrArg some (zBL o h1 (hd.trans (congrArg Data.cls (zBW c h2 h3 h4 h5 h6))) hs))⟩
 · cases h
theorem We {prog : Program} {w : World} : ∀ {es : List DictEntry} {T : List (Int × Str)},es.map zAr = T.map (fun p => some (hashInt p.1,p.1,p.2)) → (∀ e ∈ es,∃ k,(PySem.intKind prog w).is k e.key = true ∧ e.hash = (PySem.intKind prog w).hash k) ∧
  ∃ kvs : List (Int × Value),Pairs (PySem.intKind prog w) es kvs ∧ kvs.map (·.1) = T.map (·.1) ∧ PyProof.V.FlatPairs PyData.int kvs (T.map fun p => (.int p.1,.str p.2))
 | [],[],_ => ⟨(fun _ h => by cases h),[],.nil,rfl,.nil⟩
 | [],_ :: _,h => by cases h
 | _ :: _,[],h => by cases h
 | e :: es,p :: T,h => by
  rw [map_cons,map_cons,List.cons.injEq] at h
  obtain ⟨h1,h2⟩:=h
  obtain ⟨g1,kvs,g2,g3,g4⟩:=We (prog:=prog) (w:=w) h2
  unfold zAr at h1
  split at h1
  · rename_i k t x u hk hv
    simp only [Option.some.injEq,Prod.mk.injEq] at h1
    obtain ⟨q1,q2,q3⟩:=h1
    subst q2 q3
    refine ⟨fun e' he => ?_,(p.1,e.val) :: kvs,.cons (by rw [hk]; simp [PySem.intKind,Value.isInt]) rfl g2,by rw [map_cons,map_cons,g3],.cons (by rw [hv]; exact .str _ _) g4⟩
    rcases mem_cons.mp he with e2 | he
    · subst e2
      exact ⟨p.1,by rw [hk]; simp [PySem.intKind,Value.isInt],q1⟩
    · exact g1 e' he
  · cases h1
theorem zA7 {prog : Program} {w : World} {B : Heap} {a : Addr} {T : List (Int × Str)} (h : Wc B a = some (.type "dict",none,[],T.map fun p => some (hashInt p.1,p.1,p.2))) (ha : (a == sysModules) = false) (hn : (T.map (·.1)).Nodup) : TabAt (PySem.intKind prog w) PyData.int B a (T.map fun p => (.int p.1,.str p.2)):=by
 unfold Wc at h
 obtain ⟨o,ho,h⟩:=bind_eq_some_iff.mp h
 split at h
 · rename_i es ep hd
   simp only [Option.some.injEq,Prod.mk.injEq] at h
   obtain ⟨h1,h2,h3,h4⟩:=h
   obtain ⟨g1,kvs,g2,g3,g4⟩:=We (prog:=prog) (w:=w) h4
   exact ⟨ha,kvs,⟨o,es,ep,ho,⟨h1,h2,by rw [← Array.toList_inj,h3]⟩,hd,fun e he => g1 e (Array.mem_toList_iff.mpr he),g2,by rw [g3]; exact hn⟩,g4⟩
 · cases h
theorem Qq {B : Heap} {c P : Addr} (h : chO B c P = true) : CodeHd B c P:=by
 unfold chO at h
 cases ho : B.get? c with
 | none => rw [ho] at h; cases h
 | some o =>
  rw [ho] at h
  refine codeHd_of_K (K:=[(c,o)]) (fun a o' e => ?_) h
  rw [lookup_cons] at e
  split at e
  · rename_i q
    rw [beq_iff_eq.mp q,ho]; exact e
  · cases e
theorem zA9 {B : Heap} {mg : Str → Option Value} {bm : Addr} (h : KN B bm = some (.type "module",some builtinsNs,true)) (g : mg "__builtins__" = some (.ref bm)) (h1 : bm ≠ builtinsNs) (h2 : bm ≠ mainGlobals) : Bm B mg:=by
 unfold KN at h
 obtain ⟨o,ho,h⟩:=map_eq_some_iff.mp h
 simp only [Prod.mk.injEq] at h
 refine ⟨bm,o,g,h1,h2,ho,h.1,h.2.1, ?_⟩
 have h3:=h.2.2
 split at h3
 · assumption
 · cases h3
theorem W5 {h : Heap} {a : Addr} {x : Value} {l : List Value} (e : X8 h a = x :: l) : ∃ o n,h.get? a = some o ∧ o.data = .seq (x :: l).toArray n:=by
 unfold X8 at e
 cases ho : h.get? a with
 | none => rw [ho] at e; cases e
 | some o =>
  rw [ho] at e
  dsimp only at e
  split at e
  · rename_i its n hd
    exact ⟨o,n,rfl,by rw [hd,← e]⟩
  · cases e
theorem zBk {v : Value} (h : zV v = true) : ∃ t,v = .int 0 t:=by
 cases v <;> first | (cases h; done) | exact ⟨_,by rw [beq_iff_eq.mp h]⟩
theorem zAB {v : Value} (h : nV v = true) : v = .none:=by
 cases v <;> first | (cases h; done) | rfl
theorem YV {B : Heap} {i : Nat} (hP : zAX (wd (yF pw i))) {f : Addr} {fd : FuncData} {T K : Addr} (H : zw B (yF pw i) f fd) (hd : fd.defaults = .ref T) (hk : fd.kwdefaults = .ref K) (h1 : Qa B T = true) (h2 : B.isNs K = true) (h3 : B.nsMap K "key" = some .none) : ∃ t,jq B fd t:=by
 simp only [Qa,and_eq_true,beq_iff_eq] at h1
 obtain ⟨⟨q1,q2⟩,q3⟩:=h1
 obtain ⟨x,y,e⟩:=zAm q1
 rw [e] at q2 q3
 obtain ⟨t,rfl⟩:=zBk (v:=x) q2
 obtain rfl:=zAB (v:=y) q3
 obtain ⟨o,n,ho,hs⟩:=W5 e
 exact ⟨t,H.args ▸ hP,⟨T,o,n,hd,ho,hs⟩,⟨K,_,hk,.of_isNs h2,h3⟩⟩
theorem KR {v : Option Value} {x : Str} (h : VM v = some x) : ∃ t,v = some (.str x t):=by
 unfold VM at h
 split at h
 · cases h; exact ⟨_,rfl⟩
 · cases h
theorem Jv {B : Heap} {fd : FuncData} {T : Addr} (hd : fd.defaults = .ref T) (hk : fd.kwdefaults = .none) (h : Qy B T = true) : zAi B fd:=by
 simp only [Qy,and_eq_true,beq_iff_eq] at h
 obtain ⟨x,e⟩:=Qr h.1
 have q:=h.2
 rw [e] at q
 obtain rfl:=zAB (v:=x) q
 obtain ⟨o,n,ho,hs⟩:=W5 e
 exact ⟨hk,T,o,n,hd,ho,hs⟩
theorem zBQ : (fns.all fun x => Wr x.fd) = true:=by decide +kernel
structure qH (B : Heap) : Prop where
 fn : ∀ x ∈ fns,(fnO B x.f,W2 B x.c) = (some (.type "function",x.fd),some x.q)
 gl : ∀ p ∈ glL,B.nsMap mainGlobals p.1 = p.2.map Value.ref
 bl : ∀ p ∈ blL,(B.nsMap mainGlobals p.1,B.nsMap builtinsNs p.1) = (none,some p.2)
 cl : ∀ p ∈ clL,B.nsMap 230 p.1 = p.2.map Value.ref
 ok : ∀ b ∈ okL B,b = true
 key : ∀ a ∈ ([47,56,65] : List Addr),B.nsMap a "key" = some .none
 mark : VM (B.nsMap mainGlobals "ELLIPSIS_MARKER") = some zX
 rn : QG B 97 = some (.type "re.Pattern",none,0,0,za)
 rv : QG B 102 = some (.type "re.Pattern",none,0,0,zm)
 cls : KB B 231 = some (.type "type",[.ref 231,.type "object"],230,true,false,false,6,some (.builtin "object.__new__"))
 tab : Wc B 73 = some (.type "dict",none,[],jB.map fun p => some (hashInt p.1,p.1,p.2))
 md : KN B 4 = some (.type "module",some builtinsNs,true)
theorem VL {B : Heap} (e : Ki B = KJ) : qH B:=by
 unfold Ki KJ at e
 obtain ⟨e1,e⟩:=Prod.mk.inj e
 obtain ⟨e2,e⟩:=Prod.mk.inj e
 obtain ⟨e3,e⟩:=Prod.mk.inj e
 obtain ⟨e4,e⟩:=Prod.mk.inj e
 obtain ⟨e5,e⟩:=Prod.mk.inj e
 obtain ⟨e6,e⟩:=Prod.mk.inj e
 obtain ⟨e7,e⟩:=Prod.mk.inj e
 obtain ⟨e8,e⟩:=Prod.mk.inj e
 obtain ⟨e9,e⟩:=Prod.mk.inj e
 obtain ⟨e10,e⟩:=Prod.mk.inj e
 obtain ⟨e11,e12⟩:=Prod.mk.inj e
 exact ⟨map_inj_left.mp e1,map_inj_left.mp e2,map_inj_left.mp e3,map_inj_left.mp e4,fun b hb => all_eq_true.mp e5 b hb,map_inj_left.mp e6,e7,e8,e9,e10,e11,e12⟩
theorem qH.fnAt {B : Heap} (T : qH B) {d : Stmt} {f c : Addr} {q : String} {dfl kwd : Value} (i : Nat) (h : fns[i]? = some (Zl d f c q dfl kwd)) : ∃ fd,zw B d f fd ∧ fd.defaults = dfl ∧ fd.kwdefaults = kwd ∧ fd.code = .ref c:=by
 have hm:=mem_of_getElem? h
 obtain ⟨h1,h2⟩:=Prod.mk.inj (T.fn _ hm)
 exact zBc h1 h2 (all_eq_true.mp zBQ _ hm)
theorem qH.glAt {B : Heap} (T : qH B) {x : Str} {a : Addr} (i : Nat) (h : glL[i]? = some (x,some a)) : B.nsMap mainGlobals x = some (.ref a):=T.gl _ (mem_of_getElem? h)
theorem qH.blAt {B : Heap} (T : qH B) {x : Str} {v : Value} (i : Nat) (h : blL[i]? = some (x,v)) : B.nsMap mainGlobals x = none ∧ B.nsMap builtinsNs x = some v:=Prod.mk.inj (T.bl _ (mem_of_getElem? h))
theorem qH.clAt {B : Heap} (T : qH B) {x : Str} {a : Option Addr} (i : Nat) (h : clL[i]? = some (x,a)) : B.nsMap 230 x = a.map Value.ref:=T.cl _ (mem_of_getElem? h)
theorem qH.okAt {B : Heap} (T : qH B) {b : Bool} (i : Nat) (h : (okL B)[i]? = some b) : b = true:=T.ok _ (mem_of_getElem? h)
theorem qH.g {B : Heap} (T : qH B) : Gl B (B.nsMap mainGlobals) (B.nsMap builtinsNs) :=
 ⟨.of_isNs (T.okAt 0 rfl),.of_isNs (T.okAt 1 rfl),⟨_,.of_isNs (T.okAt 2 rfl),Option.isNone_iff_eq_none.mp (T.okAt 13 rfl)⟩⟩
theorem wc {d : Stmt} {fd : FuncData} {x : Str} (hp : fd.params = wd d) (hd : fd.defaults = .none) (hk : fd.kwdefaults = .none) (h : ∀ f1 f2 f4 f5 f6 f7 f10 f11 f12 f13 f14 f15 v,bindArgs (⟨f1,f2,wd d,f4,f5,f6,f7,.none,.none,f10,f11,f12,f13,f14,f15⟩ : FuncData) ⟨[v],[]⟩ = pure [(x,v)]) : ∀ v s,BindsTo s fd ⟨[v],[]⟩ [(x,v)]:=by
 obtain ⟨f1,f2,f3,f4,f5,f6,f7,f8,f9,f10,f11,f12,f13,f14,f15⟩:=fd
 dsimp only at hp hd hk
 subst hp hd hk
 exact fun v s => .of_eq (h _ _ _ _ _ _ _ _ _ _ _ _ v)
theorem zCE {prog : Program} {w : World} {B : Heap} (T : qH B) : yt prog w B (B.nsMap mainGlobals) (B.nsMap builtinsNs) 231 230 (B.nsMap 230):=by
 have G:=T.g
 obtain ⟨fi,I1,I2,I3,I4⟩:=T.fnAt 0 rfl
 obtain ⟨fr,R1,R2,R3,R4⟩:=T.fnAt 1 rfl
 obtain ⟨fl,L1,L2,L3,L4⟩:=T.fnAt 2 rfl
 obtain ⟨fp,P1,P2,P3,_⟩:=T.fnAt 3 rfl
 obtain ⟨fv,V1,V2,V3,_⟩:=T.fnAt 4 rfl
 obtain ⟨fe,E1,E2,E3,_⟩:=T.fnAt 5 rfl
 obtain ⟨fo,O1,O2,O3,_⟩:=T.fnAt 6 rfl
 obtain ⟨fd,D1,D2,D3,_⟩:=T.fnAt 7 rfl
 obtain ⟨fn,N1,N2,N3,_⟩:=T.fnAt 8 rfl
 obtain ⟨sh,S1,S2,S3,_⟩:=T.fnAt 11 rfl
 obtain ⟨m0,A1,A2,A3,_⟩:=T.fnAt 12 rfl
 obtain ⟨m1,B1,B2,B3,_⟩:=T.fnAt 13 rfl
 obtain ⟨m7,C1,C2,C3,_⟩:=T.fnAt 14 rfl
 obtain ⟨m9,F1,F2,F3,_⟩:=T.fnAt 15 rfl
 obtain ⟨ma,H1,H2,H3,_⟩:=T.fnAt 16 rfl
 obtain ⟨mb,K1,K2,K3,_⟩:=T.fnAt 17 rfl
 obtain ⟨mc,M1,M2,M3,_⟩:=T.fnAt 18 rfl
 have hdr : vr B (B.nsMap mainGlobals) (B.nsMap builtinsNs) 231 230 (B.nsMap 230):=by
   refine ⟨G,zAl T.cls (.of_isNs (T.okAt 3 rfl)),T.clAt 0 rfl,T.clAt 1 rfl,T.clAt 2 rfl,T.clAt 3 rfl,⟨_,m0,T.clAt 4 rfl,A1, ?_⟩,⟨_,m1,T.clAt 5 rfl,B1, ?_⟩,⟨_,m7,T.clAt 6 rfl,C1, ?_⟩,⟨_,m9,T.clAt 7 rfl,F1, ?_⟩,⟨_,ma,T.clAt 8 rfl,H1, ?_⟩,⟨_,mb,T.clAt 9 rfl,K1, ?_⟩,⟨_,mc,T.clAt 10 rfl,M1, ?_⟩,
     ⟨97,T.glAt 14 rfl,Jc T.rn⟩,⟨102,T.glAt 15 rfl,Jc T.rv⟩,T.blAt 13 rfl,T.blAt 14 rfl,T.blAt 15 rfl⟩
   · exact Jv A2 A3 (T.okAt 14 rfl)
   · exact fun s a b k => by rw [Z1 B1.args B2 B3]; exact .of_eq rfl
   · exact fun s a b => by rw [Z1 C1.args C2 C3]; exact .of_eq rfl
   · exact fun s a => wc F1.args F2 F3 (fun _ _ _ _ _ _ _ _ _ _ _ _ _ => rfl) a s
   · exact fun s a => wc H1.args H2 H3 (fun _ _ _ _ _ _ _ _ _ _ _ _ _ => rfl) a s
   · exact fun s a => wc K1.args K2 K3 (fun _ _ _ _ _ _ _ _ _ _ _ _ _ => rfl) a s
   · rw [Z1 M1.args M2 M3]
     intro s a n v M A E Q hQ
     refine (show wpAny M A (alloc vv >>= fun d => pure [(ofString "self",a),(ofString "_name",n),(ofString "_value",v),(ofString "_params",.ref d)]) Q E s from ?_)
     exact wpAny_bind (wpAny_alloc (wpAny_pure hQ))
 have bis : Jk B (B.nsMap mainGlobals) (B.nsMap builtinsNs):=by
   obtain ⟨t1,q1⟩:=YV ⟨_,_,_,_,_,_,_,_,rfl⟩ I1 I2 I3 (T.okAt 7 rfl) (T.okAt 4 rfl) (T.key 47 (.head _))
   obtain ⟨t2,q2⟩:=YV ⟨_,_,_,_,_,_,_,_,rfl⟩ R1 R2 R3 (T.okAt 8 rfl) (T.okAt 5 rfl) (T.key 56 yY)
   obtain ⟨t3,q3⟩:=YV ⟨_,_,_,_,_,_,_,_,rfl⟩ L1 L2 L3 (T.okAt 9 rfl) (T.okAt 6 rfl) (T.key 65 wM)
   exact ⟨G,T.blAt 0 rfl,⟨_,fi,t1,I1.def (T.glAt 0 rfl),q1⟩,⟨_,fr,t2,R1.def (T.glAt 1 rfl),q2⟩,⟨_,fl,t3,L1.def (T.glAt 2 rfl),q3⟩⟩
 have ell : Y0 B (B.nsMap mainGlobals) (B.nsMap builtinsNs):=by
   refine ⟨G,T.blAt 0 rfl,KR T.mark,_,fe,E1.def (T.glAt 5 rfl), ?_⟩
   exact fun a b s => by rw [Z1 E1.args E2 E3]; exact .of_eq rfl
 refine ⟨⟨hdr,ell,bis,zA9 T.md (T.glAt 16 rfl) (by decide) (by decide),T.blAt 1 rfl,fun z => ?_,T.glAt 12 rfl,⟨_,fn,N1.def (T.glAt 8 rfl), ?_⟩⟩,T.blAt 2 rfl,T.blAt 3 rfl,T.blAt 4 rfl,T.blAt 8 rfl,T.blAt 9 rfl,T.blAt 10 rfl,T.blAt 11 rfl,T.blAt 12 rfl,T.blAt 5 rfl,T.blAt 7 rfl,T.blAt 6 rfl,
   ⟨73,T.glAt 13 rfl,zA7 T.tab (by decide) (by decide)⟩,⟨_,fo,O1.def (T.glAt 6 rfl),wc O1.args O2 O3 fun _ _ _ _ _ _ _ _ _ _ _ _ _ => rfl⟩,⟨_,fp,P1.def (T.glAt 3 rfl),wc P1.args P2 P3 fun _ _ _ _ _ _ _ _ _ _ _ _ _ => rfl⟩,⟨_,fv,V1.def (T.glAt 4 rfl),wc V1.args V2 V3 fun _ _ _ _ _ _ _ _ _ _ _ _ _ => rfl⟩,⟨_,fd,D1.def (T.glAt 7 rfl),wc D1.args D2 D3 fun _ _ _ _ _ _ _ _ _ _ _ _ _ => rfl⟩,⟨_,sh,S1.def (T.glAt 11 rfl),wc S1.args S2 S3 fun _ _ _ _ _ _ _ _ _ _ _ _ _ => rfl⟩⟩
 · have:=T.okAt 12 rfl
   rw [z] at this; cases this
 · exact fun a b s => by rw [Z1 N1.args N2 N3]; exact .of_eq rfl
theorem Ky.ext {B B' : Heap} {mg mb mN : Str → Option Value} {C N : Addr} (H : Ky B mg mb mN C N) (X : zS B B') : Ky B' mg mb mN C N:=by
 refine ⟨H.hdr.ext X,H.ell.ext X,H.bis.ext X, ?_,H.range,fun z => ?_,H.hd,let ⟨f,fd,h1,h2⟩:=H.br; ⟨f,fd,h1.ext X,h2⟩⟩
 · obtain ⟨bm,o,b1,b2,b3,b4,b5⟩:=H.bm
   exact ⟨bm,o,b1,b2,b3,X _ _ b4,b5⟩
 · cases e : B.get? sysModules with
   | none => exact H.sys e
   | some o => rw [X _ _ e] at z; cases z
theorem yt.ext {prog : Program} {w : World} {B B' : Heap} {mg mb mN : Str → Option Value} {C N : Addr} (H : yt prog w B mg mb C N mN) (X : zS B B') : yt prog w B' mg mb C N mN :=
 { H with
  le:=H.le.ext X
  flagT:=let ⟨fa,h1,h2⟩:=H.flagT; ⟨fa,h1,h2.keep X⟩
  oct:=let ⟨f,fd,h1,h2⟩:=H.oct; ⟨f,fd,h1.ext X,h2⟩
  flags:=let ⟨f,fd,h1,h2⟩:=H.flags; ⟨f,fd,h1.ext X,h2⟩
  pv:=let ⟨f,fd,h1,h2⟩:=H.pv; ⟨f,fd,h1.ext X,h2⟩
  read:=let ⟨f,fd,h1,h2⟩:=H.read; ⟨f,fd,h1.ext X,h2⟩
  shut:=let ⟨f,fd,h1,h2⟩:=H.shut; ⟨f,fd,h1.ext X,h2⟩ }
theorem WW {B B' : Heap} {c P : Addr} (H : CodeHd B c P) (X : zS B B') : CodeHd B' c P:=by
 obtain ⟨o,vs,f,tf,fl,tg,i,tx,tt,h,r⟩:=H
 exact ⟨o,vs,f,tf,fl,tg,i,tx,tt,X _ _ h,r⟩
theorem Js {B₀ h : Heap} (l : List Addr) (X : zS B₀ h) : zS (hideAll B₀ l) (hideAll h l):=fun a o e => by
 refine hideAll_get _ (X _ _ (of_hideAll _ e)) fun m => ?_
 rw [hideAll_none _ m] at e; cases e
theorem Jq {h : Heap} {a : Addr} {m m' : Str → Option Value} (x : h.Ns a m) (y : h.Ns a m') : m = m':=by
 obtain ⟨o,es,ep,h1,h2,h3,h4⟩:=x
 obtain ⟨o',es',ep',g1,g2,g3,g4⟩:=y
 rw [h1] at g1; cases g1
 rw [h2] at g2; cases g2
 funext y
 rw [← h4,g4]
theorem Jz {B : Heap} (T : qH B) : vk B (B.nsMap mainGlobals) 254:=by
 obtain ⟨f,F1,F2,F3,F4⟩:=T.fnAt 9 rfl
 refine ⟨_,f,T.glAt 9 rfl,F1,⟨_,F4,Qq (T.okAt 10 rfl)⟩, ?_⟩
 have hp:=F1.args
 clear F1
 obtain ⟨f1,f2,f3,f4,f5,f6,f7,f8,f9,f10,f11,f12,f13,f14,f15⟩:=f
 dsimp only at hp F2 F3
 subst hp F2 F3
 exact fun s a b c => .of_eq rfl
theorem vk.ext {B B' : Heap} {mg : Str → Option Value} {Pr : Addr} (H : vk B mg Pr) (X : zS B B') : vk B' mg Pr:=by
 obtain ⟨f,fd,h1,h2,⟨c,h3,h4⟩,h5⟩:=H.fn
 exact ⟨f,fd,h1,h2.ext X,⟨c,h3,WW h4 X⟩,h5⟩
theorem zAv {h h' : Heap} (hk : ∀ a o,a ∉ xH → h.get? a = some o → h'.get? a = some o) (ht : ∀ a ∈ xH,h.get? a = some (tabObj #[]) ∧ isCodeTable h a ∧ ∃ ps,h'.get? a = some (tabObj ps)) : OldK h h':=by
 refine ⟨fun b o e => ?_,fun b o e => ?_⟩
 · by_cases hb : b ∈ xH
   · obtain ⟨h1,h2,ps,h3⟩:=ht b hb
     rw [h1] at e; cases e
     refine .inr (.inl ⟨h2,rfl,#[],ps,rfl, ?_⟩)
     rw [h3]; simp [tabObj]
   · exact .inl (hk b o hb e)
 · by_cases hb : b ∈ xH
   · obtain ⟨h1,h2,ps,h3⟩:=ht b hb
     exact ⟨_,h3⟩
   · exact ⟨o,hk b o hb e⟩
theorem Xa {B h : Heap} {c P : Addr} (H : CodeHd B c P) (X : zS B h) : isCodeTable h P:=by
 obtain ⟨o,vs,f,tf,fl,tg,i,tx,tt,h1,h2,h3,h4,_⟩:=H
 exact ⟨c,o,vs,X _ _ h1,h2,h3,h4⟩
theorem Ja {prog : Program} {w : World} {s₁ : Shared} (Y : wO.says w s₁.heap) {sa : Addr} {vs : List Value} {sc : List Int} (hL : s₁.heap.IsList sa vs.toArray) (hi : IntsAre vs sc) (hsc : sc.length ≤ 63) {Q E : Value → Shared → Prop}
   (hQ : ∀ h' tk,OldK s₁.heap h' → Q (.bool true) { s₁ with heap:=h',toks:=tk }) : wpAny (model prog w) callerA (PySem.call (.ref 269) [.ref sa]) Q E s₁:=by
 obtain ⟨B₀,e,ht,hx⟩:=Y
 have T:=VL e
 have X:=Js xH hx
 have H:=(zCE (prog:=prog) (w:=w) T).ext X
 have hr:=(Jz T).ext X
 obtain ⟨f,F1,F2,F3,F4⟩:=T.fnAt 10 rfl
 have ha : ∀ a ∈ xH,s₁.heap.get? a = some (tabObj #[]):=fun a m => hx _ _ (ht a m)
 have hch:=WW (Qq (T.okAt 11 rfl)) X
 have hcr:=WW (Qq (T.okAt 10 rfl)) X
 have hB : (hideAll s₁.heap xH).IsList sa vs.toArray:=by
   obtain ⟨o,h1,h2⟩:=hL
   refine ⟨o,hideAll_get _ h1 fun m => ?_,h2⟩
   rw [ha _ m] at h1; cases h1
   exact absurd h2.1 (by simp [tabObj])
 generalize hideAll B₀ xH = B at T X H hr F1
 refine wo (args:=⟨[.ref sa],[]⟩) (M₁:=fun a => a ∈ xH) (B:=hideAll s₁.heap xH) (k:=6) (H.le.hdr.G) (F1.ext X) (wc F1.args F2 F3 (fun _ _ _ _ _ _ _ _ _ _ _ _ _ => rfl) (.ref sa) s₁) (by simp only [map_cons,map_nil]; decide) (by kernel_rfl) ⟨rfl,by decide,by decide⟩ (yb _) (fun a m => ⟨_,ha a m⟩)
   (fun a => a ∈ xH) (fun a m => ⟨m,wU _ m⟩) [(ofString "script",.val (.ref sa))] ?_ [(266,.obs 266 (tabObj #[]) []),(254,.obs 254 (tabObj #[]) [])] ?_ (by decide) ?_
 · intro x r hm
   cases mem_singleton.mp hm
   exact ⟨_,.head _,rfl⟩
 · refine all_cons ?_ (all_cons ?_ all_nil)
   · exact .tab (ha _ (.head _)) fun p hp => by cases hp
   · exact .tab (ha _ yY) fun p hp => by cases hp
 · intro env Own M s₂ hLe R hO hMM S
   obtain ⟨L,rfl⟩:=hLe
   refine JZ H R rfl rfl ⟨⟨_,H.le.hdr.G⟩,H.le.bm,⟨268,F4,hch⟩,XZ _⟩ hr (.head _) yY hB hi hsc S fun Own' M' ρ' μ' s' ps os ps' os' S' m1 m2 => ?_
   obtain ⟨h',tk,rfl⟩:=S'.same
   refine hQ h' tk (zAv (fun a o n e => S'.keep a o n e) fun a m => ⟨ha a m, ?_, ?_⟩)
   · rcases mem_cons.mp m with q | m
     · rw [q]; exact Xa hch (yb _)
     · rw [mem_singleton.mp m]; exact Xa hcr (yb _)
   · rcases mem_cons.mp m with q | m
     · rw [q]
       cases S'.e.mem _ _ m1 with
       | tab p _ => exact ⟨_,p⟩
     · rw [mem_singleton.mp m]
       cases S'.e.mem _ _ m2 with
       | tab p _ => exact ⟨_,p⟩
theorem holds_all : Vb.Holds:=by
 refine head fun d hdn => ?_
 intro w s₀ s₁ mg mb G Y fa o pm cd doc dV kV ho hd hcd hD hmg hg args vals as hpre hlay hrd hwl hlo
 have hfa : fa = 269:=by
  obtain ⟨B₀,e,ht,hx⟩:=Y
  have T:=VL e
  have h1:=(T.g.g.keeps (yb xH)).keeps hx
  have h2:=Jq G.T.g h1
  rw [h2,hdn,T.glAt 10 rfl] at hmg
  cases hmg; rfl
 subst hfa
 clear ho hd hcd hD hmg
 wrow_args hpre hlay hrd hwl hlo
 refine Ja Y (by assumption) (by assumption) (by omega) fun h' tk K => ?_
 exact ⟨.inl ⟨.bool true,_,[],rfl,raisesW_false (by wrow_none_raised),ReadsW.bool true,by wrow_post,fun _ => ⟨.nil,fun a h => by cases h⟩⟩,K,rfl,.of_eq hg⟩
end Mine
theorem PySem.Challenge.cw_ta0093_02_holds : PySem.Challenge.rw_ta0093_02.Holds :=
 Mine.holds_all
