import PyProof.Rows.All
import PyProof.ExcStrAll.ValueError
import PyProof.ExcStrCall
import PyProof.ListRange
import PyProof.NsDelKeeps
import Open.Head
import KE.BytesMake
import KE.KBytesCut
import KE.KSortKey
import KE.KNestM
import KE.KSortAsk
import ObjForm.Fk.All
import Wide.FinOn
import OpenK.AllK
import Wide.All
import PySem.Challenge.RW_ta0093_01
set_option Elab.async false
set_option linter.all false
set_option maxRecDepth 100000
set_option maxHeartbeats 8000000
namespace Mine
open PySem PySem.Calls PyProof.Rows PySem.W
theorem Wt (n : Nat) : ¬ (n : Int) < 0:=Int.not_lt.mpr (Int.natCast_nonneg n)
theorem vy {a b : Nat} (h : decide ((a : Int) < b) = true) : a < b:=Int.ofNat_lt.mp (of_decide_eq_true h)
theorem wE {a b : Nat} (h : decide ((a : Int) < b) = false) : b - a = 0:=Nat.sub_eq_zero_of_le (Int.ofNat_le.mp (Int.not_lt.mp (of_decide_eq_false h)))
theorem q7 (a b : Nat) : ((a : Int) + b).fdiv 2 = (((a + b) / 2 : Nat) : Int):=by
 rw [Int.fdiv_eq_ediv_of_nonneg _ (by decide)]; rfl
theorem xU {a b : Nat} (h : a < b) : b - a = b - a - 1 + 1:=(Nat.sub_add_cancel (Nat.sub_pos_of_lt h)).symm
theorem YA {a b : Nat} (h : a < b) : (a + b) / 2 < b:=Nat.div_lt_of_lt_mul (by rw [Nat.two_mul]; exact Nat.add_lt_add_right h b)
theorem Qu {a b : Nat} (h : a < b) : a ≤ (a + b) / 2:=(Nat.le_div_iff_mul_le (by decide)).mpr (by rw [Nat.mul_two]; exact Nat.add_le_add_left (Nat.le_of_lt h) a)
theorem kO {a b n : Nat} (h : a < b) (e : b - a ≤ n + 1) : b - ((a + b) / 2 + 1) ≤ n :=
 Nat.le_trans (Nat.sub_le_sub_left (Nat.succ_le_succ (Qu h)) b) (Nat.sub_le_of_le_add (Nat.le_trans (Nat.sub_le_iff_le_add.mp e) (Nat.le_of_eq (by rw [Nat.add_assoc,Nat.add_comm 1 a]))))
theorem kt {a b n : Nat} (h : a < b) (e : b - a ≤ n + 1) : (a + b) / 2 - a ≤ n :=
 Nat.le_of_lt_succ (Nat.lt_of_lt_of_le (Nat.sub_lt_sub_right (Qu h) (YA h)) e)
theorem JM {a b m : Nat} (h : a < b) (e : (a + b) / 2 = m) : m < b ∧ b - (m + 1) ≤ b - a - 1 ∧ m - a ≤ b - a - 1 ∧ b - (m + 1) < b - a ∧ m - a < b - a:=by
 subst e
 have p:=Nat.le_of_eq (xU h)
 have q : ∀ {x},x ≤ b - a - 1 → x < b - a:=fun y => by rw [xU h]; exact Nat.lt_succ_of_le y
 exact ⟨YA h,kO h p,kt h p,q (kO h p),q (kt h p)⟩
theorem Kp (n : Nat) : max 0 (n : Int) = n:=Int.max_eq_right (Int.natCast_nonneg n)
theorem J8 (a n : Nat) : max 0 (min (a : Int) (n : Int)) = ((min a n : Nat) : Int):=by omega
theorem KA : ∀ n : Nat,max 0 (min (-1 + (n : Int)) (n : Int)) = ((n - 1 : Nat) : Int)
 | 0 => by decide
 | n + 1 => by rw [show (-1 + ((n + 1 : Nat) : Int)) = n by omega,Int.min_eq_left (Int.ofNat_le.mpr (Nat.le_succ n)),Kp]; rfl
theorem vq {n : Nat} (h : n < 9000000000000000000) : (n : Int) < 2 ^ 63:=Int.lt_of_lt_of_le (Int.ofNat_lt.mpr h) (by decide)
theorem zAO {n : Nat} (h : 1 ≤ n) : (-1 + (n : Int)).toNat = n - 1:=by
 cases n with
 | zero => cases h
 | succ n => rw [show (-1 + ((n + 1 : Nat) : Int)) = n by omega]; rfl
theorem KW {k n : Nat} (h : k < n) : seqIndex? (k : Int) n = some k:=by
 unfold seqIndex?
 simp only [if_neg (Wt k),Int.toNat_natCast]
 exact if_pos (by rw [decide_eq_true (Int.natCast_nonneg k),decide_eq_true (Int.ofNat_lt.mpr h)]; rfl)
theorem JG {n : Nat} (h : 1 ≤ n) : seqIndex? (-1) n = some (n - 1):=by
 cases n with
 | zero => cases h
 | succ n =>
  rw [Nat.add_sub_cancel,← KW (Nat.lt_succ_self n)]
  unfold seqIndex?
  rw [if_pos (show (-1 : Int) < 0 by decide),if_neg (Wt n),show (-1 + ((n + 1 : Nat) : Int)) = n by omega]
theorem Q0 {b i k r : Nat} (h : b - i = k + 1 + r) : k < b + 1 - (i + 1):=by rw [Nat.add_sub_add_right,h]; exact Nat.lt_of_lt_of_le (Nat.lt_succ_self k) (Nat.le_add_right _ _)
theorem VB {v z' z'' : Int} {z : Nat} (h : 0 ≤ v) (e : (z : Int) = z') (q : z'' ≤ z') (t : v < z'') : v.natAbs < z:=Int.ofNat_lt.mp (by rw [Int.natAbs_of_nonneg h,e]; exact Int.lt_of_lt_of_le t q)
noncomputable def KY : Stmt → List Stmt
 | .FunctionDef _ _ b _ _ _ _ _ _ _ => b
 | .ClassDef _ _ _ b _ _ _ _ _ _ _ => b
 | .For _ _ b _ _ => b
 | .If _ b _ _ => b
 | .Try b _ _ _ _ => b
 | _ => []
noncomputable abbrev zC:=KY
noncomputable abbrev JD:=KY
noncomputable abbrev X8:=KY
noncomputable def wx : Stmt → Arguments
 | .FunctionDef _ a _ _ _ _ _ _ _ _ => a
 | _ => { posonlyargs:=[],args:=[],vararg:=none,kwonlyargs:=[],kw_defaults:=[],kwarg:=none,defaults:=[] }
noncomputable def zZ : Stmt → Scope
 | .FunctionDef _ _ _ _ _ _ sc _ _ _ => sc
 | _ => { kind:=.module,names:=[],isGenerator:=false,isCoroutine:=false,more:=[] }
noncomputable def yM (p : Program) (n : Nat) : Stmt:=p.main.body.getD n (.Pass ⟨0,0,0,0⟩)
noncomputable abbrev Jy : Stmt:=.Pass ⟨0,0,0,0⟩
noncomputable def fnO (h : Heap) (a : Addr) : Option (Value × FuncData):=(h.get? a).bind fun o => match o.data with
 | .func fd => some (o.cls,{ fd with name:=Str.empty,doc:=.none,pyModule:=.none,annotations:=none,closureTuple:=.none })
 | _ => none
noncomputable def WX (h : Heap) (c : Addr) : Option Str:=(h.get? c).bind fun o => match o.data with
 | .fields vs => (match (vs[1]? : Option Value) with | some (.str q _) => some q | _ => none)
 | _ => none
structure FnS where
 d : Stmt
 f : Addr
 c : Addr
 q : Str
 dfl : Value
 kwd : Value
noncomputable def FnS.fd (x : FnS) : FuncData:={ name:=Str.empty,qualname:=x.q,params:=wx x.d,body:=.stmts (zC x.d),scope:=zZ x.d,globals:=mainGlobals,closure:=[],defaults:=x.dfl,kwdefaults:=x.kwd,code:=.ref x.c,builtins:=builtinsNs }
noncomputable def W6 (h : Heap) (a : Addr) : Option (Value × Option Addr × Nat × Nat × Array Nat):=(h.get? a).bind fun o => match o.data with
 | .fields vs => (match vs.getD 5 .none with
  | .ref c => (match h.get? c with
   | some ⟨_,_,.seq its _,_⟩ => some (o.cls,o.dict,Builtin.Re.reRawNat (vs.getD 6 .none),Builtin.Re.reRawNat (vs.getD 2 .none),(its.map Builtin.Re.reRawOf).map (·.toNat))
   | _ => none)
  | _ => none)
 | _ => none
noncomputable def JU (h : Heap) (a : Addr) : Option (Value × List Value × Addr × Bool × Bool × Bool × Nat × Option Value):=(h.get? a).bind fun o => match o.data with
 | .cls c => some (o.cls,c.mro,c.ns,c.hasDict,c.abstract,c.hasDel,o.slots.toList.length,(o.slots.toList[4]?).getD none)
 | _ => none
noncomputable def K8 (e : DictEntry) : Option (Int × Int × Str):=match e.key,e.val with
 | .int k _,.str x _ => some (e.hash,k,x)
 | _,_ => none
noncomputable def Xu (h : Heap) (a : Addr) : Option (Value × Option Addr × List (Option Value) × List (Option (Int × Int × Str))):=(h.get? a).bind fun o => match o.data with
 | .dict es _ => some (o.cls,o.dict,o.slots.toList,es.toList.map K8)
 | _ => none
noncomputable def chO (h : Heap) (c P : Addr) : Bool:=match h.get? c with
 | some o => codeHdIn [(c,o)] c P
 | none => false
noncomputable def Jn (h : Heap) (a : Addr) : Option (Value × Option Addr × Bool):=(h.get? a).map fun o => (o.cls,o.dict,match o.data with | .plain => true | _ => false)
noncomputable def Xo (h : Heap) (a : Addr) : List Value:=match h.get? a with
 | some o => (match o.data with | .seq its _ => its.toList | _ => [])
 | none => []
noncomputable def zV : Value → Bool
 | .int i _ => i == 0
 | _ => false
noncomputable def nV : Value → Bool
 | .none => true
 | _ => false
noncomputable def Qe (h : Heap) (a : Addr) : Bool:=(Xo h a).length == 2 && zV ((Xo h a).getD 0 .none) && nV ((Xo h a).getD 1 (.bool true))
noncomputable def Wc (v : Option Value) : Option Str:=match v with
 | some (.str x _) => some x
 | _ => none
noncomputable def Ql (h : Heap) (a : Addr) : Bool:=(Xo h a).length == 1 && nV ((Xo h a).getD 0 (.bool true))
noncomputable def YH (d : Stmt) (f c : Addr) (q : String) (dfl kwd : Value:=.none) : FnS:=⟨d,f,c,Str.ofString q,dfl,kwd⟩
noncomputable def zT : Str:=Str.ofString "..."
noncomputable def jC : List (Int × Str):=[(1,"OPTIMIZED"),(2,"NEWLOCALS"),(4,"VARARGS"),(8,"VARKEYWORDS"),(16,"NESTED"),(32,"GENERATOR"),(64,"NOFREE"),(128,"COROUTINE"),(256,"ITERABLE_COROUTINE"),(512,"ASYNC_GENERATOR")]
noncomputable def yV : Array Nat:=#[14,10,4,1,1,22,0,31,16,127,0,13,7,22,0,31,16,127,0,1]
noncomputable def xf : Array Nat:=#[14,14,4,1,1,9,4294966783,0,0,2147483648,0,0,0,0,0,13,11,9,4294966783,0,0,2147483648,0,0,0,0,0,1]
noncomputable def zR (h h' : Heap) : Prop:=∀ a o,h.get? a = some o → h'.get? a = some o
theorem zR.refl (h : Heap) : zR h h:=fun _ _ e => e
theorem zR.trans {a b c : Heap} (x : zR a b) (y : zR b c) : zR a c:=fun p o e => y p o (x p o e)
noncomputable def pw : Program:=PySem.Challenge.pw_ta0093_01
noncomputable abbrev Wp:=yM pw 23
noncomputable abbrev kz:=yM pw 5
noncomputable abbrev YD:=yM pw 4
noncomputable abbrev Z3:=yM pw 12
noncomputable abbrev flS:=yM pw 8
noncomputable abbrev wN (i : Nat) : Stmt:=(JD (yM pw 18)).getD i (.Pass ⟨0,0,0,0⟩)
noncomputable abbrev VJ:=yM pw 3
noncomputable abbrev zt:=yM pw 24
noncomputable abbrev zAM:=yM pw 20
noncomputable abbrev naS:=yM pw 22
noncomputable abbrev pvS:=yM pw 9
noncomputable abbrev rdS:=yM pw 21
noncomputable def fns : List FnS:=[YH VJ 47 46 "insort_right" (.ref 39) (.ref 40),YH YD 56 55 "bisect_right" (.ref 48) (.ref 49),YH kz 65 64 "bisect_left" (.ref 57) (.ref 58),YH flS 73 72 "pretty_flags",YH pvS 80 79 "_parse_varint",YH Z3 87 86 "_ellipsis_match",
 YH zAM 240 239 "_law_octets",YH rdS 247 246 "_law_read",YH naS 254 253 "_law_name",YH Wp 259 258 "_law_run",YH zt 264 263 "law",
 YH (wN 0) 125 124 "Headers.__init__" (.ref 118),YH (wN 1) 132 131 "Headers._convert_string_type",YH (wN 7) 170 169 "Headers.get_all",YH (wN 9) 183 182 "Headers.keys",YH (wN 10) 188 187 "Headers.values",YH (wN 11) 195 194 "Headers.items",YH (wN 16) 228 227 "Headers.add_header"]
noncomputable def glL : List (Str × Option Addr):=([("insort_right",some 47),("bisect_right",some 56),("bisect_left",some 65),("pretty_flags",some 73),("_parse_varint",some 80),("_ellipsis_match",some 87),("_law_octets",some 240),("_law_read",some 247),("_law_name",some 254),("_law_run",some 259),("law",some 264),
 ("Headers",some 231),("COMPILER_FLAG_NAMES",some 66),("_name_disallowed_re",some 97),("_value_disallowed_re",some 102),("__builtins__",some 4)] : List (String × Option Addr)).map fun p => (Str.ofString p.1,p.2)
noncomputable def blL : List (Str × Value):=([("len",.builtin "len"),("range",.type "range"),("sum",.builtin "sum"),("bytes",.type "bytes"),("sorted",.builtin "sorted"),("int",.type "int"),("ValueError",.type "ValueError"),("iter",.builtin "iter"),("next",.builtin "next"),("StopIteration",.type "StopIteration"),("hex",.builtin "hex"),("type",.type "type"),("str",.type "str"),("list",.type "list")] : List (String × Value)).map fun p => (Str.ofString p.1,p.2)
noncomputable def clL : List (Str × Option Addr):=([("__getattribute__",none),("__getattr__",none),("__setattr__",none),("_headers",none),("__init__",some 125),("_convert_string_type",some 132),("get_all",some 170),("keys",some 183),("values",some 188),("items",some 195),("add_header",some 228)] : List (String × Option Addr)).map fun p => (Str.ofString p.1,p.2)
noncomputable def okL (h : Heap) : List Bool:=[h.isNs mainGlobals,h.isNs builtinsNs,h.isNs cStatics,h.isNs 230,h.isNs 40,h.isNs 49,h.isNs 58,Qe h 39,Qe h 48,Qe h 57,chO h 258 256,chO h 263 261,(h.get? sysModules).isSome,(h.nsMap cStatics "sys.recursionlimit").isNone,Ql h 118]
noncomputable abbrev Ku:=List (Option (Value × FuncData) × Option Str) × List (Option Value) × List (Option Value × Option Value) × List (Option Value) × Bool × List (Option Value) × Option Str × Option (Value × Option Addr × Nat × Nat × Array Nat) × Option (Value × Option Addr × Nat × Nat × Array Nat) × Option (Value × List Value × Addr × Bool × Bool × Bool × Nat × Option Value) × Option (Value × Option Addr × List (Option Value) × List (Option (Int × Int × Str))) × Option (Value × Option Addr × Bool)
noncomputable def Jr (h : Heap) : Ku:=(fns.map fun x => (fnO h x.f,WX h x.c),glL.map fun p => h.nsMap mainGlobals p.1,blL.map fun p => (h.nsMap mainGlobals p.1,h.nsMap builtinsNs p.1),clL.map fun p => h.nsMap 230 p.1,(okL h).all _root_.id,[40,49,58].map fun a => h.nsMap a "key",Wc (h.nsMap mainGlobals "ELLIPSIS_MARKER"),W6 h 97,W6 h 102,JU h 231,Xu h 66,Jn h 4)
noncomputable def Jf : Ku:=(fns.map fun x => (some (.type "function",x.fd),some x.q),glL.map fun p => p.2.map Value.ref,blL.map fun p => (none,some p.2),clL.map fun p => p.2.map Value.ref,true,[40,49,58].map fun _ => some .none,some zT,some (.type "re.Pattern",none,0,0,yV),some (.type "re.Pattern",none,0,0,xf),some (.type "type",[.ref 231,.type "object"],230,true,false,false,6,some (.builtin "object.__new__")),some (.type "dict",none,[],jC.map fun p => some (hashInt p.1,p.1,p.2)),some (.type "module",some builtinsNs,true))
noncomputable def xN : List Addr:=[261,256]
noncomputable def wT : Hook where
 α:=Ku × List (Option Obj)
 obs:=fun s => (Jr (hideAll s.heap xN),xN.map s.heap.get?)
 val:=fun _ => (Jf,xN.map fun _ => some (tabObj #[]))
 says:=fun _ h => ∃ B₀,Jr (hideAll B₀ xN) = Jf ∧ (∀ a ∈ xN,B₀.get? a = some (tabObj #[])) ∧ zR B₀ h
 of:=fun _ s e => ⟨s.heap,(Prod.mk.inj e).1,List.map_inj_left.mp (Prod.mk.inj e).2,zR.refl _⟩
 keeps:=fun _ h h' x k => let ⟨B₀,a,b,c⟩:=x; ⟨B₀,a,b,c.trans k⟩
noncomputable def qv : Program:=view pw [0,24]
noncomputable def qL : List Str:=["_wall","__name__","insort_right","bisect_right","bisect_left","COMPILER_FLAG_NAMES","pretty_flags","_parse_varint","ELLIPSIS_MARKER","_ellipsis_match","tspecials","_name_disallowed_re","_value_disallowed_re","_formatparam","Headers","_law_octets","_law_read","_law_name","_law_run"].map Str.ofString
abbrev VZ : PySem.W.OpenLaw:=PySem.Challenge.rw_ta0093_01
noncomputable def xtL (s : Shared) : Bool:=PySem.W.xlAt qv [] s && recOk (RowW.records VZ.row.toRowW) s
theorem JN {α β γ : Type} {x : Option α} {f : α → β} {g : α → γ} {a : β} {b : γ} (h : x.map f = some a) (k : x.map g = some b) : x.map (fun s => (f s,g s)) = some (a,b):=by
 obtain ⟨s,rfl,rfl⟩:=Option.map_eq_some_iff.mp h
 cases k
 rfl
set_option maxHeartbeats 0 in
theorem zAS (w : World) : (fencedOpening treeTable VZ.row.prog w 3400).map (fun s₀ => (topFrom treeTable VZ.row.prog (w.withFollow "special-get-raises" false) 3400 s₀).map (fun s => (openSeen qv qL (importedModules VZ.row.prog.main.body) xtL true s,wT.obs s))) = some (some (openGood qv qL,wT.val (w.withFollow "special-get-raises" false))):=by kernel_rfl
set_option maxHeartbeats 0 in
theorem zAQ (w : World) : (fencedOpening treeTable VZ.row.prog w 3400).map (fun s₀ => (topFrom treeTable VZ.row.prog (w.withFollow "special-get-raises" true) 3400 s₀).map (fun s => (openSeen qv qL (importedModules VZ.row.prog.main.body) xtL true s,wT.obs s))) = some (some (openGood qv qL,wT.val (w.withFollow "special-get-raises" true))):=by kernel_rfl
theorem left : LeftO VZ.row.prog qv qL xtL wT.obs wT.val 3400:=LeftO.of_split "special-get-raises" fun w => JN (zAS w) (zAQ w)
set_option maxHeartbeats 0 in
theorem zAz : VZ.wellSaid = true:=by kernel_rfl
theorem head (hc : ∀ d,(d.name = Str.ofString "law") → WalkO qv qL (XL qv []) wT.says VZ.row.toRowW d [] fun f vs => PySem.call f vs) : VZ.Holds:=by
 have e1 : (defOf qv (Str.ofString "law")).map (fun x => (x.1.name,x.2,some (x.1.params,x.1.body,x.1.scope),kwWritten? x.1.params.kwonlyargs x.1.params.kw_defaults)) = some (Str.ofString "law",[],pw.theDef (Str.ofString "law"),some []):=by kernel_rfl
 obtain ⟨⟨d,kwd⟩,hd,e1⟩:=Option.map_eq_some_iff.mp e1
 simp only [Prod.mk.injEq] at e1
 obtain ⟨e1,e2,e3,e4⟩:=e1
 subst e2
 refine holds_law zAz fun sd => ?_
 refine holds_open (r:=VZ.row) (q:=qv) (loose:=qL) (Xt:=xtL) (XP:=XL qv []) (Yf:=wT.obs) (Ya:=wT.val) (YP:=wT.says) (N:=3400) (d:=d) (kwd:=[]) left wT.of wT.keeps (fun s e => xl_of s (Bool.and_eq_true_iff.mp e).1) XL.keeps hd e3.symm e4 (fun s e => recFacts_of (Bool.and_eq_true_iff.mp e).2) (by rfl) sd ?h4 ⟨rfl,rfl,rfl,rfl,rfl, ?h5⟩ ?hw (hc d e1)
 case h4 => kernel_rfl
 case h5 => decide +kernel
 case hw => w_witness2
open PySem PySem.Calls PyProof.Rows
noncomputable abbrev qW (b : Array UInt8) (t : Tok) (i : Nat) : Obj:={ cls:=.type "bytes_iterator",data:=.fields #[.bytes b t,.int i 0] }
inductive D where
 | none
 | bool (b : Bool)
 | int (i : Int)
 | str (s : Str)
 | bytes (b : Array UInt8)
 | list (xs : List D)
 | tup (xs : List D)
 | dct (ks : List Str) (xs : List D)
 | rng (a b c : Int)
 | typ (n : String)
 | ob (a : Addr) (o : Obj)
 | bit (b : Array UInt8) (i : Nat)
 | obs (a : Addr) (o : Obj) (os : List (Addr × Obj))
noncomputable abbrev K9 (h : Heap) (a : Addr) (vs : List Value) : Prop:=∃ n,h.get? a = some { cls:=.type "tuple",dict:=none,data:=.seq vs.toArray n,slots:=#[] }
section
variable (prog : Program) (w : World) (h : Heap) (M : Addr → Prop)
mutual
inductive Rp : Value → D → Prop
 | none : Rp Value.none D.none
 | bool (b : Bool) : Rp (Value.bool b) (D.bool b)
 | int (i : Int) (t : Tok) : Rp (Value.int i t) (D.int i)
 | str (x : Str) (t : Tok) : Rp (Value.str x t) (D.str x)
 | bytes (b : Array UInt8) (t : Tok) : Rp (Value.bytes b t) (D.bytes b)
 | typ (n : String) : Rp (Value.type n) (D.typ n)
 | list {a : Addr} {vs : List Value} {ds : List D} : h.PlainList a vs.toArray → ¬ M a → zE vs ds → Rp (Value.ref a) (D.list ds)
 | tup {a : Addr} {vs : List Value} {ds : List D} : K9 h a vs → ¬ M a → zE vs ds → Rp (Value.ref a) (D.tup ds)
 | dct {a : Addr} {ks : List Str} {vs : List Value} {ds : List D} : h.DictOf (strKind prog w) a (ks.zip vs) → ks.length = vs.length → (a == sysModules) = false → ¬ M a → zE vs ds → Rp (Value.ref a) (D.dct ks ds)
 | rng {r : Addr} {a b c : Int} {t u v : Tok} : IsRange h r a b c t u v → ¬ M r → Rp (Value.ref r) (D.rng a b c)
 | bit {a : Addr} {b : Array UInt8} {t : Tok} {i : Nat} : h.get? a = some (qW b t i) → ¬ M a → Rp (Value.ref a) (D.bit b i)
 | ob {a : Addr} {o : Obj} : h.get? a = some o → ¬ M a → Rp (Value.ref a) (D.ob a o)
 | obs {a : Addr} {o : Obj} {os : List (Addr × Obj)} : h.get? a = some o → ¬ M a → (∀ p ∈ os,h.get? p.1 = some p.2 ∧ ¬ M p.1) → Rp (Value.ref a) (D.obs a o os)
inductive zE : List Value → List D → Prop
 | nil : zE [] []
 | cons {v : Value} {vs : List Value} {d : D} {ds : List D} : Rp v d → zE vs ds → zE (v :: vs) (d :: ds)
end
end
section
variable {prog : Program} {w : World} {h h' : Heap} {M M' : Addr → Prop}
theorem jN {K : Type} [DecidableEq K] {knd : KeyKind prog w K} {a : Addr} {kvs : List (K × Value)} (x : h.DictOf knd a kvs) (e : ∀ o,h.get? a = some o → h'.get? a = some o) : h'.DictOf knd a kvs :=
 let ⟨o,es,ep,ho,r⟩:=x; ⟨o,es,ep,e o ho,r⟩
noncomputable def RpI (h : Heap) (M : Addr → Prop) (All : List Value → List D → Prop) (Dct : Addr → List Str → List Value → Prop) (v : Value) : D → Prop
 | .none => v = .none
 | .bool b => v = .bool b
 | .int i => ∃ t,v = .int i t
 | .str x => ∃ t,v = .str x t
 | .bytes x => ∃ t,v = .bytes x t
 | .typ n => v = .type n
 | .list ds => ∃ a vs,v = .ref a ∧ h.PlainList a vs.toArray ∧ ¬ M a ∧ All vs ds
 | .tup ds => ∃ a vs,v = .ref a ∧ K9 h a vs ∧ ¬ M a ∧ All vs ds
 | .dct ks ds => ∃ a vs,v = .ref a ∧ Dct a ks vs ∧ ks.length = vs.length ∧ (a == sysModules) = false ∧ ¬ M a ∧ All vs ds
 | .rng a b c => ∃ r t u x,v = .ref r ∧ IsRange h r a b c t u x ∧ ¬ M r
 | .bit b i => ∃ a t,v = .ref a ∧ h.get? a = some (qW b t i) ∧ ¬ M a
 | .ob a o => v = .ref a ∧ h.get? a = some o ∧ ¬ M a
 | .obs a o os => v = .ref a ∧ h.get? a = some o ∧ ¬ M a ∧ ∀ p ∈ os,h.get? p.1 = some p.2 ∧ ¬ M p.1
theorem Rp.inv {v : Value} {d : D} (r : Rp prog w h M v d) : RpI h M (zE prog w h M) (fun a ks vs => h.DictOf (strKind prog w) a (ks.zip vs)) v d :=
 Rp.casesOn (motive_1:=fun v d _ => RpI h M (zE prog w h M) (fun a ks vs => h.DictOf (strKind prog w) a (ks.zip vs)) v d) r rfl (fun _ => rfl) (fun _ t => ⟨t,rfl⟩) (fun _ t => ⟨t,rfl⟩) (fun _ t => ⟨t,rfl⟩) (fun _ => rfl) (fun e m q => ⟨_,_,rfl,e,m,q⟩) (fun e m q => ⟨_,_,rfl,e,m,q⟩) (fun e l g m q => ⟨_,_,rfl,e,l,g,m,q⟩) (fun e m => ⟨_,_,_,_,rfl,e,m⟩) (fun e m => ⟨_,_,rfl,e,m⟩) (fun e m => ⟨rfl,e,m⟩) (fun e m q => ⟨rfl,e,m,q⟩)
noncomputable def QM (R : Value → D → Prop) (All : List Value → List D → Prop) (vs : List Value) : List D → Prop
 | [] => vs = []
 | d :: ds => ∃ u us,vs = u :: us ∧ R u d ∧ All us ds
theorem zE.inv {vs : List Value} {ds : List D} (r : zE prog w h M vs ds) : QM (Rp prog w h M) (zE prog w h M) vs ds :=
 zE.casesOn (motive_2:=fun vs ds _ => QM (Rp prog w h M) (zE prog w h M) vs ds) r rfl fun x q => ⟨_,_,rfl,x,q⟩
theorem Rp.to (hk : ∀ a o,¬ M a → h.get? a = some o → h'.get? a = some o ∧ ¬ M' a) {v : Value} {d : D} (r : Rp prog w h M v d) : Rp prog w h' M' v d :=
 Rp.rec (motive_1:=fun v d _ => Rp prog w h' M' v d) (motive_2:=fun vs ds _ => zE prog w h' M' vs ds) .none .bool .int .str .bytes .typ (fun ⟨n,e⟩ m _ r => .list ⟨n,(hk _ _ m e).1⟩ (hk _ _ m e).2 r) (fun ⟨n,e⟩ m _ r => .tup ⟨n,(hk _ _ m e).1⟩ (hk _ _ m e).2 r) (fun x l g m _ r => .dct (jN x fun o e => (hk _ o m e).1) l g (let ⟨o,_,_,e,_⟩:=x; (hk _ o m e).2) r) (fun e m => .rng (hk _ _ m e).1 (hk _ _ m e).2) (fun e m => .bit (hk _ _ m e).1 (hk _ _ m e).2) (fun e m => .ob (hk _ _ m e).1 (hk _ _ m e).2) (fun e m r => .obs (hk _ _ m e).1 (hk _ _ m e).2 fun p hp => hk p.1 p.2 (r p hp).2 (r p hp).1) .nil (fun _ _ x r => .cons x r) r
theorem zE.to (hk : ∀ a o,¬ M a → h.get? a = some o → h'.get? a = some o ∧ ¬ M' a) {vs : List Value} {ds : List D} (r : zE prog w h M vs ds) : zE prog w h' M' vs ds:=by
 induction ds generalizing vs with
 | nil => cases r.inv; exact .nil
 | cons d ds ih => obtain ⟨u,us,rfl,x,q⟩:=r.inv; exact .cons (x.to hk) (ih q)
theorem zE.length {vs : List Value} {ds : List D} (r : zE prog w h M vs ds) : vs.length = ds.length:=by
 induction ds generalizing vs with
 | nil => rw [show vs = [] from r.inv]; rfl
 | cons d ds ih => obtain ⟨u,us,rfl,_,q⟩:=r.inv; exact congrArg (· + 1) (ih q)
theorem zE.append {vs ws : List Value} {ds es : List D} (r : zE prog w h M vs ds) (q : zE prog w h M ws es) : zE prog w h M (vs ++ ws) (ds ++ es):=by
 induction ds generalizing vs with
 | nil => rw [show vs = [] from r.inv]; exact q
 | cons d ds ih => obtain ⟨u,us,rfl,x,r⟩:=r.inv; exact .cons x (ih r)
theorem zE.get {vs : List Value} {ds : List D} (r : zE prog w h M vs ds) {i : Nat} {d : D} (e : ds[i]? = some d) : ∃ v,vs[i]? = some v ∧ Rp prog w h M v d:=by
 induction ds generalizing vs i with
 | nil => exact nomatch e
 | cons d' ds ih =>
  obtain ⟨u,us,rfl,x,r⟩:=r.inv
  cases i with
  | zero => exact ⟨u,rfl,Option.some.inj e ▸ x⟩
  | succ i => exact ih r e
theorem zE.take {vs : List Value} {ds : List D} (r : zE prog w h M vs ds) (n : Nat) : zE prog w h M (vs.take n) (ds.take n):=by
 induction ds generalizing vs n with
 | nil => rw [show vs = [] from r.inv,List.take_nil,List.take_nil]; exact .nil
 | cons d ds ih =>
  obtain ⟨u,us,rfl,x,r⟩:=r.inv
  cases n with
  | zero => exact .nil
  | succ n => exact .cons x (ih r n)
theorem zE.drop {vs : List Value} {ds : List D} (r : zE prog w h M vs ds) (n : Nat) : zE prog w h M (vs.drop n) (ds.drop n):=by
 induction ds generalizing vs n with
 | nil => rw [show vs = [] from r.inv,List.drop_nil,List.drop_nil]; exact .nil
 | cons d ds ih =>
  obtain ⟨u,us,rfl,x,r⟩:=r.inv
  cases n with
  | zero => exact .cons x r
  | succ n => exact ih r n
theorem zE.mem {vs : List Value} {ds : List D} (r : zE prog w h M vs ds) {v : Value} (hv : v ∈ vs) : ∃ d ∈ ds,Rp prog w h M v d:=by
 obtain ⟨i,e⟩:=List.getElem?_of_mem hv
 have hi:=r.length ▸ (List.getElem?_eq_some_iff.mp e).1
 obtain ⟨u,eu,x⟩:=r.get (List.getElem?_eq_getElem hi)
 rw [e] at eu
 exact ⟨_,List.getElem_mem hi,Option.some.inj eu ▸ x⟩
theorem Rp.int_inv {v : Value} {i : Int} (r : Rp prog w h M v (.int i)) : ∃ t,v = .int i t:=r.inv
theorem Rp.bool_inv {v : Value} {b : Bool} (r : Rp prog w h M v (.bool b)) : v = .bool b:=r.inv
theorem Rp.none_inv {v : Value} (r : Rp prog w h M v .none) : v = .none:=r.inv
theorem Rp.typ_inv {v : Value} {n : String} (r : Rp prog w h M v (.typ n)) : v = .type n:=r.inv
theorem Rp.str_inv {v : Value} {x : Str} (r : Rp prog w h M v (.str x)) : ∃ t,v = .str x t:=r.inv
theorem Rp.bytes_inv {v : Value} {x : Array UInt8} (r : Rp prog w h M v (.bytes x)) : ∃ t,v = .bytes x t:=r.inv
theorem Rp.list_inv {v : Value} {ds : List D} (r : Rp prog w h M v (.list ds)) : ∃ a vs,v = .ref a ∧ h.PlainList a vs.toArray ∧ ¬ M a ∧ zE prog w h M vs ds:=r.inv
theorem Rp.tup_inv {v : Value} {ds : List D} (r : Rp prog w h M v (.tup ds)) : ∃ a vs,v = .ref a ∧ K9 h a vs ∧ ¬ M a ∧ zE prog w h M vs ds:=r.inv
theorem Rp.rng_inv {v : Value} {a b c : Int} (r : Rp prog w h M v (.rng a b c)) : ∃ r t u x,v = .ref r ∧ IsRange h r a b c t u x ∧ ¬ M r:=r.inv
theorem Rp.ob_inv {v : Value} {a : Addr} {o : Obj} (r : Rp prog w h M v (.ob a o)) : v = .ref a ∧ h.get? a = some o ∧ ¬ M a:=r.inv
theorem Rp.obs_inv {v : Value} {a : Addr} {o : Obj} {os : List (Addr × Obj)} (r : Rp prog w h M v (.obs a o os)) : v = .ref a ∧ h.get? a = some o ∧ ¬ M a ∧ ∀ p ∈ os,h.get? p.1 = some p.2 ∧ ¬ M p.1:=r.inv
end
theorem all_nil {α β : Type} {P : α → β → Prop} : ∀ x r,(x,r) ∈ ([] : List (α × β)) → P x r:=fun _ _ h => nomatch h
theorem all_cons {α β : Type} {P : α → β → Prop} {y : α} {q : β} {l : List (α × β)} (h : P y q) (t : ∀ x r,(x,r) ∈ l → P x r) : ∀ x r,(x,r) ∈ (y,q) :: l → P x r:=by
 intro x r m
 rcases List.mem_cons.mp m with e | m
 · cases e; exact h
 · exact t x r m
section
variable {α : Type} {a b c d e f g h i j k m n o : α} {l : List α}
theorem Q4 : a ∈ a :: l:=.head _
theorem yo : b ∈ a :: b :: l:=.tail _ (.head _)
theorem xA : c ∈ a :: b :: c :: l:=.tail _ yo
theorem jM : d ∈ a :: b :: c :: d :: l:=.tail _ xA
theorem j5 : e ∈ a :: b :: c :: d :: e :: l:=.tail _ jM
theorem K6 : f ∈ a :: b :: c :: d :: e :: f :: l:=.tail _ j5
theorem zAN : g ∈ a :: b :: c :: d :: e :: f :: g :: l:=.tail _ K6
theorem zAI : h ∈ a :: b :: c :: d :: e :: f :: g :: h :: l:=.tail _ zAN
theorem zAJ : i ∈ a :: b :: c :: d :: e :: f :: g :: h :: i :: l:=.tail _ zAI
theorem zAx : j ∈ a :: b :: c :: d :: e :: f :: g :: h :: i :: j :: l:=.tail _ zAJ
end
inductive RV where
 | dat (d : D)
 | adr (a : Addr)
 | val (v : Value)
noncomputable def yG (env : Env) (h : Heap) (x : Str) (v : Value) : Prop :=
 (env.kindOf x = some .local ∧ ∃ m,h.Ns env.locals m ∧ m x = some v) ∨
 ((env.kindOf x = some .cell ∨ (env.kindOf x = some .free ∧ (x == ("__classdict__" : Str)) = false)) ∧ ∃ c,env.cells.lookup x = some c ∧ h.IsCell c (some v))
theorem yG.ext {env : Env} {h h' : Heap} {x : Str} {v : Value} (k : zR h h') : yG env h x v → yG env h' x v:=by
 rintro (⟨a,m,n,e⟩ | ⟨a,c,e,q⟩)
 · exact .inl ⟨a,m,n.keeps k,e⟩
 · exact .inr ⟨a,c,e,q.keeps k⟩
section
variable (prog : Program) (w : World)
inductive zc (h : Heap) (M : Addr → Prop) (a : Addr) : D → Prop
 | list {vs : List Value} {ds : List D} : h.PlainList a vs.toArray → zE prog w h M vs ds → zc h M a (.list ds)
 | dct {ks : List Str} {vs : List Value} {ds : List D} : h.DictOf (strKind prog w) a (ks.zip vs) → ks.length = vs.length → (a == sysModules) = false → zE prog w h M vs ds → zc h M a (.dct ks ds)
 | tab {ps : Array Value} {os : List (Addr × Obj)} : h.get? a = some { cls:=.none,data:=.fields ps } → (∀ p ∈ os,h.get? p.1 = some p.2 ∧ ¬ M p.1) → zc h M a (.obs a { cls:=.none,data:=.fields ps } os)
 | itr {b : Array UInt8} {t : Tok} {i : Nat} : h.get? a = some (qW b t i) → zc h M a (.bit b i)
noncomputable def zm (h : Heap) (M : Addr → Prop) (v : Value) : RV → Prop
 | .dat d => Rp prog w h M v d
 | .adr a => v = .ref a
 | .val u => v = u
noncomputable def Rd (h : Heap) (M : Addr → Prop) (v : Value) (d : D) : Prop:=Rp prog w h M v d ∨ ∃ a,v = .ref a ∧ zc prog w h M a d
end
section
variable {prog : Program} {w : World} {h h' : Heap} {M M' : Addr → Prop}
theorem Rp.ext {v : Value} {d : D} (k : zR h h') (r : Rp prog w h M v d) : Rp prog w h' M v d:=Rp.to (fun a o m e => ⟨k a o e,m⟩) r
theorem zE.ext {v : List Value} {d : List D} (k : zR h h') (r : zE prog w h M v d) : zE prog w h' M v d:=zE.to (fun a o m e => ⟨k a o e,m⟩) r
theorem Rp.less {v : Value} {d : D} (k : ∀ a,M' a → M a) (r : Rp prog w h M v d) : Rp prog w h M' v d:=Rp.to (fun a o m e => ⟨e,fun x => m (k a x)⟩) r
theorem zE.less {v : List Value} {d : List D} (k : ∀ a,M' a → M a) (r : zE prog w h M v d) : zE prog w h M' v d:=zE.to (fun a o m e => ⟨e,fun x => m (k a x)⟩) r
theorem Rp.more {v : Value} {d : D} (k : ∀ a o,M' a → h.get? a = some o → M a) (r : Rp prog w h M v d) : Rp prog w h M' v d:=Rp.to (fun a o m e => ⟨e,fun x => m (k a o x e)⟩) r
theorem zE.more {v : List Value} {d : List D} (k : ∀ a o,M' a → h.get? a = some o → M a) (r : zE prog w h M v d) : zE prog w h M' v d:=zE.to (fun a o m e => ⟨e,fun x => m (k a o x e)⟩) r
theorem zc.to {a : Addr} {d : D} (ha : ∀ o,h.get? a = some o → h'.get? a = some o) (hk : ∀ a o,¬ M a → h.get? a = some o → h'.get? a = some o ∧ ¬ M' a) (c : zc prog w h M a d) : zc prog w h' M' a d:=by
 cases c with
 | list p r => exact .list (p.at ha) (zE.to hk r)
 | dct p l g r => exact .dct (jN p ha) l g (zE.to hk r)
 | tab p r => exact .tab (ha _ p) fun q hq => hk q.1 q.2 (r q hq).2 (r q hq).1
 | itr p => exact .itr (ha _ p)
theorem zc.ext {a : Addr} {d : D} (k : zR h h') (c : zc prog w h M a d) : zc prog w h' M a d:=c.to (fun o e => k a o e) fun a o m e => ⟨k a o e,m⟩
theorem zm.to {v : Value} {r : RV} (hk : ∀ a o,¬ M a → h.get? a = some o → h'.get? a = some o ∧ ¬ M' a) (x : zm prog w h M v r) : zm prog w h' M' v r :=
 RV.casesOn (motive:=fun r => zm prog w h M v r → zm prog w h' M' v r) r (fun _ => Rp.to hk) (fun _ => id) (fun _ => id) x
theorem zm.ext {v : Value} {r : RV} (k : zR h h') (x : zm prog w h M v r) : zm prog w h' M v r:=x.to fun a o m e => ⟨k a o e,m⟩
theorem Rd.ext {v : Value} {d : D} (k : zR h h') (r : Rd prog w h M v d) : Rd prog w h' M v d:=by
 rcases r with r | ⟨a,e,c⟩
 · exact .inl (r.ext k)
 · exact .inr ⟨a,e,c.ext k⟩
theorem zc.list_inv {a : Addr} {ds : List D} (c : zc prog w h M a (.list ds)) : ∃ vs,h.PlainList a vs.toArray ∧ zE prog w h M vs ds:=by cases c with | list p r => exact ⟨_,p,r⟩
noncomputable def RdI (h : Heap) (All : List Value → List D → Prop) (Dct : Addr → List Str → List Value → Prop) (v : Value) : D → Prop
 | .none => v = .none
 | .bool b => v = .bool b
 | .int i => ∃ t,v = .int i t
 | .str x => ∃ t,v = .str x t
 | .bytes x => ∃ t,v = .bytes x t
 | .typ n => v = .type n
 | .list ds => ∃ a vs,v = .ref a ∧ h.PlainList a vs.toArray ∧ All vs ds
 | .tup ds => ∃ a vs,v = .ref a ∧ K9 h a vs ∧ All vs ds
 | .dct ks ds => ∃ a vs,v = .ref a ∧ Dct a ks vs ∧ ks.length = vs.length ∧ All vs ds ∧ (a == sysModules) = false
 | .rng a b c => ∃ r t u x,v = .ref r ∧ IsRange h r a b c t u x
 | .bit b i => ∃ a t,v = .ref a ∧ h.get? a = some (qW b t i)
 | .ob a o => v = .ref a ∧ h.get? a = some o
 | .obs a o _ => v = .ref a ∧ h.get? a = some o
theorem Rd.inv {v : Value} {d : D} (r : Rd prog w h M v d) : RdI h (zE prog w h M) (fun a ks vs => h.DictOf (strKind prog w) a (ks.zip vs)) v d :=
 Or.elim r (fun r => Rp.casesOn (motive_1:=fun v d _ => RdI h (zE prog w h M) (fun a ks vs => h.DictOf (strKind prog w) a (ks.zip vs)) v d) r rfl (fun _ => rfl) (fun _ t => ⟨t,rfl⟩) (fun _ t => ⟨t,rfl⟩) (fun _ t => ⟨t,rfl⟩) (fun _ => rfl) (fun e _ q => ⟨_,_,rfl,e,q⟩) (fun e _ q => ⟨_,_,rfl,e,q⟩) (fun e l g _ q => ⟨_,_,rfl,e,l,q,g⟩) (fun e _ => ⟨_,_,_,_,rfl,e⟩) (fun e _ => ⟨_,_,rfl,e⟩) (fun e _ => ⟨rfl,e⟩) (fun e _ _ => ⟨rfl,e⟩))
  fun r => Exists.elim r fun a r => r.1 ▸ zc.casesOn (motive:=fun d _ => RdI h (zE prog w h M) (fun a ks vs => h.DictOf (strKind prog w) a (ks.zip vs)) (.ref a) d) r.2 (fun p q => ⟨a,_,rfl,p,q⟩) (fun p l g q => ⟨a,_,rfl,p,l,q,g⟩) (fun p _ => ⟨rfl,p⟩) (fun p => ⟨a,_,rfl,p⟩)
theorem Rd.list_inv {v : Value} {ds : List D} (r : Rd prog w h M v (.list ds)) : ∃ a vs,v = .ref a ∧ h.PlainList a vs.toArray ∧ zE prog w h M vs ds:=r.inv
theorem Rd.int_inv {v : Value} {i : Int} (r : Rd prog w h M v (.int i)) : ∃ t,v = .int i t:=r.inv
theorem Rd.bool_inv {v : Value} {i : Bool} (r : Rd prog w h M v (.bool i)) : v = .bool i:=r.inv
theorem Rd.str_inv {v : Value} {i : Str} (r : Rd prog w h M v (.str i)) : ∃ t,v = .str i t:=r.inv
theorem Rd.none_inv {v : Value} (r : Rd prog w h M v .none) : v = .none:=r.inv
theorem Rd.typ_inv {v : Value} {n : String} (r : Rd prog w h M v (.typ n)) : v = .type n:=r.inv
theorem Rd.bytes_inv {v : Value} {i : Array UInt8} (r : Rd prog w h M v (.bytes i)) : ∃ t,v = .bytes i t:=r.inv
theorem Rd.tup_inv {v : Value} {ds : List D} (r : Rd prog w h M v (.tup ds)) : ∃ a vs,v = .ref a ∧ K9 h a vs ∧ zE prog w h M vs ds:=r.inv
theorem Rd.rng_inv {v : Value} {a b c : Int} (r : Rd prog w h M v (.rng a b c)) : ∃ r t u x,v = .ref r ∧ IsRange h r a b c t u x:=r.inv
theorem Rd.ob_inv {v : Value} {a : Addr} {o : Obj} (r : Rd prog w h M v (.ob a o)) : v = .ref a ∧ h.get? a = some o:=r.inv
theorem Rd.dct_inv {v : Value} {ks : List Str} {ds : List D} (r : Rd prog w h M v (.dct ks ds)) : ∃ a vs,v = .ref a ∧ h.DictOf (strKind prog w) a (ks.zip vs) ∧ ks.length = vs.length ∧ zE prog w h M vs ds ∧ (a == sysModules) = false:=r.inv
theorem Rd.obs_inv {v : Value} {a : Addr} {o : Obj} {os : List (Addr × Obj)} (r : Rd prog w h M v (.obs a o os)) : v = .ref a ∧ h.get? a = some o ∧ ∀ p ∈ os,h.get? p.1 = some p.2 ∧ ¬ M p.1 :=
 Or.elim r (fun r => ⟨r.obs_inv.1,r.obs_inv.2.1,r.obs_inv.2.2.2⟩) fun r => Exists.elim r fun a r => by
  obtain ⟨e,c⟩:=r
  cases c with | tab p q => exact ⟨e,p,q⟩
end
noncomputable abbrev zJ:=List (Str × NameKind)
structure vH (names : zJ) (env : Env) : Prop where
 fn : env.scope.kind = .function
 glob : env.globals = mainGlobals
 bl : env.builtins = builtinsNs
 gi : ∀ x,names.lookup x = some .globalImplicit → env.kindOf x = some .globalImplicit
 lo : ∀ x,names.lookup x = some .local → env.kindOf x = some .local
 ce : ∀ x,names.lookup x = some .cell → env.kindOf x = some .cell
 fr : ∀ x,names.lookup x = some .free → env.kindOf x = some .free ∨ env.kindOf x = some .cell
 cl : ∀ x,names.lookup x = some .cell ∨ names.lookup x = some .free → ∃ c,env.cells.lookup x = some c
 apart : ∀ x y c,env.cells.lookup x = some c → env.cells.lookup y = some c → x = y
structure yu (names : zJ) (env : Env) (h : Heap) : Prop where
 ns : ∃ m,h.Ns env.locals m
 cell : ∀ x c,names.lookup x = some .cell → env.cells.lookup x = some c → ∃ v,h.IsCell c v
noncomputable def zO (names : zJ) (env : Env) (a : Addr) : Prop:=a = env.locals ∨ ∃ x,names.lookup x = some .cell ∧ env.cells.lookup x = some a
theorem yn {h : Heap} {a : Addr} {m v} (n : h.Ns a m) (c : h.IsCell a v) : False:=by
 obtain ⟨o,_,_,e,d,_⟩:=n
 obtain ⟨o',e',d'⟩:=c
 rw [e] at e'; cases e'
 rw [d] at d'; cases d'
section
variable {M : Model} {A : Around} {E : Value → Shared → Prop} {s : Shared} {env : Env} {names : zJ}
theorem yD {x : Str} {v : Value} {Q : Unit → Shared → Prop} (N : vH names env) (F : yu names env s.heap) (hx : names.lookup x = some .local ∨ names.lookup x = some .cell)
   (hQ : ∀ h' tk,yu names env h' → yG env h' x v → (∀ y u,y ≠ x → yG env s.heap y u → yG env h' y u) → (∀ a,¬ zO names env a → h'.get? a = s.heap.get? a) → Q () { s with heap:=h',toks:=tk }) :
   wpAny M A (storeName env x v) Q E s:=by
 obtain ⟨m,n⟩:=F.ns
 rcases hx with hx | hx
 · have hk:=N.lo x hx
   refine wpAny_storeName_local hk n (fun h' n' sb => ?_) (by rw [N.fn]; rfl)
   refine hQ h' _ ⟨⟨_,n'⟩,fun y c hy e => ?_⟩ (.inl ⟨hk,_,n',by simp⟩) (fun y u hne => ?_) (fun a ha => sb.2 a fun e => ha (.inl e))
   · obtain ⟨u,q⟩:=F.cell y c hy e
     exact ⟨u,q.sameBut sb fun e' => yn n (e' ▸ q)⟩
   · rintro (⟨a,m',n₂,e⟩ | ⟨a,c,e,q⟩)
     · refine .inl ⟨a,_,n', ?_⟩
       rw [if_neg hne]
       obtain ⟨o,es,ep,h1,h2,h3,h4⟩:=n
       obtain ⟨o',es',ep',g1,g2,g3,g4⟩:=n₂
       rw [h1] at g1; cases g1
       rw [h2] at g2; cases g2
       rw [← h4,g4]; exact e
     · exact .inr ⟨a,c,e,q.sameBut sb fun e' => yn n (e' ▸ q)⟩
 · have hk:=N.ce x hx
   obtain ⟨c,e⟩:=N.cl x (.inl hx)
   obtain ⟨u,q⟩:=F.cell x c hx e
   have hne : env.locals ≠ c:=fun e' => yn n (e' ▸ q)
   refine wpAny_storeName_cell N.fn hk e q fun h' q' sb => ?_
   refine hQ h' _ ⟨⟨_,n.sameBut sb hne⟩,fun y c' hy e' => ?_⟩ (.inr ⟨.inl hk,c,e,q'⟩) (fun y u hne' => ?_) (fun a ha => sb.2 a fun e' => ha (.inr ⟨x,hx,e' ▸ e⟩))
   · by_cases hc : c' = c
     · subst hc; exact ⟨_,q'⟩
     · obtain ⟨u',q2⟩:=F.cell y c' hy e'
       exact ⟨u',q2.sameBut sb hc⟩
   · rintro (⟨a,m',n₂,e₂⟩ | ⟨a,c',e',q2⟩)
     · exact .inl ⟨a,m',n₂.sameBut sb hne,e₂⟩
     · exact .inr ⟨a,c',e',q2.sameBut sb fun e2 => hne' (N.apart _ _ c (e2 ▸ e') e)⟩
theorem yu.to {h h' : Heap} (F : yu names env h) (hk : ∀ a o,zO names env a → h.get? a = some o → h'.get? a = some o) : yu names env h':=by
 refine ⟨?_,fun x c hx e => ?_⟩
 · obtain ⟨m,n⟩:=F.ns
   exact ⟨m,n.at' fun o e => hk _ o (.inl rfl) e⟩
 · obtain ⟨v,o,q,r⟩:=F.cell x c hx e
   exact ⟨v,o,hk _ _ (.inr ⟨x,hx,e⟩) q,r⟩
theorem yu.has {h : Heap} (F : yu names env h) {a : Addr} (x : zO names env a) : ∃ o,h.get? a = some o:=by
 rcases x with rfl | ⟨x,hx,e⟩
 · obtain ⟨m,o,_,_,e,_⟩:=F.ns; exact ⟨o,e⟩
 · obtain ⟨v,o,q,_⟩:=F.cell x a hx e; exact ⟨o,q⟩
end
structure En (prog : Program) (w : World) (B : Heap) (names : zJ) (env : Env) (h : Heap) (M : Addr → Prop) (ρ : List (Str × RV)) (μ : List (Addr × D)) : Prop where
 base : zR B h
 n : vH names env
 old : ∀ a,M a → ∃ o,h.get? a = some o
 celled : ∀ x c,env.cells.lookup x = some c → ∃ v,h.IsCell c v
 vars : ∀ x r,(x,r) ∈ ρ → ∃ v,yG env h x v ∧ zm prog w h M v r
 mem : ∀ a d,(a,d) ∈ μ → zc prog w h M a d
theorem En.ext {prog : Program} {w : World} {B : Heap} {names : zJ} {env : Env} {h h' : Heap} {M : Addr → Prop} {ρ : List (Str × RV)} {μ : List (Addr × D)} (S : En prog w B names env h M ρ μ) (k : zR h h') : En prog w B names env h' M ρ μ where
 base:=S.base.trans k
 n:=S.n
 old:=fun a m => let ⟨o,e⟩:=S.old a m; ⟨o,k a o e⟩
 celled:=fun x c e => let ⟨v,q⟩:=S.celled x c e; ⟨v,q.keeps k⟩
 vars:=fun x r m => let ⟨v,a,b⟩:=S.vars x r m; ⟨v,a.ext k,b.ext k⟩
 mem:=fun a d m => (S.mem a d m).ext k
noncomputable def Ev (prog : Program) (w : World) (A : Around) (h : Heap) (e : Expr) (env : Env) (R : Heap → Value → Prop) : Prop :=
 ∀ (s : Shared) (E : Value → Shared → Prop) (Q : Value → Shared → Prop),zR h s.heap → (∀ v s',Keeps s s' → R s'.heap v → Q v s') → wpAny (model prog w) A (eval e env) Q E s
noncomputable def Tv (prog : Program) (w : World) (A : Around) (h : Heap) (e : Expr) (env : Env) (b : Bool) : Prop :=
 ∀ (s : Shared) (E : Value → Shared → Prop) (Q : Bool → Shared → Prop),zR h s.heap → (∀ s',Keeps s s' → Q b s') → wpAny (model prog w) A (isTrue e env (eval e env)) Q E s
theorem zF (s : Shared) : Keeps s s:=⟨s.heap,s.toks,rfl,fun _ _ e => e⟩
theorem zI (s : Shared) (t : Nat) : Keeps s { s with toks:=t }:=⟨s.heap,t,rfl,fun _ _ e => e⟩
theorem zA {a b c : Shared} (x : Keeps a b) (y : Keeps b c) : Keeps a c:=by
 obtain ⟨h,t,rfl,k⟩:=x
 obtain ⟨h',t',rfl,k'⟩:=y
 exact ⟨h',t',rfl,fun b o e => k' b o (k b o e)⟩
theorem ke {a b : Shared} (x : Keeps a b) : zR a.heap b.heap:=by
 obtain ⟨h,t,rfl,k⟩:=x; exact k
noncomputable abbrev PS (prog : Program) (w : World) (M : Addr → Prop) (d : D) : Heap → Value → Prop:=fun h v => Rp prog w h M v d
noncomputable abbrev PR (prog : Program) (w : World) (M : Addr → Prop) (d : D) : Heap → Value → Prop:=fun h v => Rd prog w h M v d
theorem Ev.mono {prog : Program} {w : World} {A : Around} {h : Heap} {e : Expr} {env : Env} {R R' : Heap → Value → Prop} (x : Ev prog w A h e env R) (k : ∀ h v,R h v → R' h v) : Ev prog w A h e env R' :=
 fun s E Q hk hQ => x s E Q hk fun v s' ks r => hQ v s' ks (k _ _ r)
theorem Ev.ext {prog : Program} {w : World} {A : Around} {h h' : Heap} {e : Expr} {env : Env} {R : Heap → Value → Prop} (k : zR h h') (x : Ev prog w A h e env R) : Ev prog w A h' e env R :=
 fun s E Q hk hQ => x s E Q (k.trans hk) hQ
theorem Ev.rd {prog : Program} {w : World} {A : Around} {h : Heap} {e : Expr} {env : Env} {M} {d} (x : Ev prog w A h e env (PS prog w M d)) : Ev prog w A h e env (PR prog w M d) :=
 x.mono fun _ _ r => .inl r
section
variable {prog : Program} {w : World} {A : Around} {h : Heap} {env : Env} {M : Addr → Prop}
theorem zQ (s : Shared) (o : Obj) (t : Nat) : Keeps s { s with heap:=s.heap.push o,toks:=t } :=
 ⟨_,t,rfl,fun _ _ e => Heap.get?_push_of_some _ e⟩
theorem Ev.const_int (i : Int) (k : Nat) (p : Pos) : Ev prog w A h (.Constant (.int i) k p) env (PS prog w M (.int i)) :=
 fun s E Q _ hQ => wpAny_Constant_int (hQ _ _ (zI s _) (.int i _))
theorem Ev.const_str (x : Str) (k : Nat) (p : Pos) : Ev prog w A h (.Constant (.str x) k p) env (PS prog w M (.str x)) :=
 fun s E Q _ hQ => wpAny_Constant_str (hQ _ _ (zI s _) (.str x _))
theorem Ev.const_bool (b : Bool) (k : Nat) (p : Pos) : Ev prog w A h (.Constant (.bool b) k p) env (PS prog w M (.bool b)) :=
 fun s E Q _ hQ => wpAny_Constant_bool (hQ _ _ (zF s) (.bool b))
theorem Ev.const_none (k : Nat) (p : Pos) : Ev prog w A h (.Constant .none k p) env (PS prog w M .none) :=
 fun s E Q _ hQ => wpAny_Constant_none (hQ _ _ (zF s) .none)
theorem Ev.var {B : Heap} {names : zJ} {ρ : List (Str × RV)} {μ : List (Addr × D)} (S : En prog w B names env h M ρ μ) {x : Str} {r : RV} {p : Pos} (hm : (x,r) ∈ ρ) (hd : (x == ("__debug__" : Str)) = false) :
   Ev prog w A h (.Name x p) env (fun h' v => zm prog w h' M v r):=by
 intro s E Q k hQ
 obtain ⟨v,hv,hr⟩:=S.vars x r hm
 refine wpAny_Name ?_ hd
 have hq:=hQ v s (zF s) (hr.ext k)
 rcases hv with ⟨a,m,n,e⟩ | ⟨a | ⟨a,a2⟩,c,e,q⟩
 · exact wpAny_loadName_local S.n.fn a (n.keeps k) e hq
 · exact wpAny_loadName_cell S.n.fn a e (q.keeps k) hq
 · exact wpAny_loadName_free S.n.fn a e (q.keeps k) hq a2
theorem Ev.name {B : Heap} {names : zJ} {ρ : List (Str × RV)} {μ : List (Addr × D)} (S : En prog w B names env h M ρ μ) {x : Str} {d : D} {p : Pos} (hm : (x,RV.dat d) ∈ ρ) (hd : (x == ("__debug__" : Str)) = false) :
 Ev prog w A h (.Name x p) env (PS prog w M d):=Ev.var S hm hd
theorem Ev.nameM {B : Heap} {names : zJ} {ρ : List (Str × RV)} {μ : List (Addr × D)} (S : En prog w B names env h M ρ μ) {x : Str} {a : Addr} {d : D} {p : Pos} (hm : (x,RV.adr a) ∈ ρ) (hc : (a,d) ∈ μ) (hd : (x == ("__debug__" : Str)) = false) :
  Ev prog w A h (.Name x p) env (PR prog w M d):=by
 intro s E Q k hQ
 refine Ev.var S hm hd s E Q k fun v s' ks r => hQ v s' ks (.inr ⟨a,r,(S.mem a d hc).ext (k.trans (ke ks))⟩)
structure Gl (B : Heap) (mg mb : Str → Option Value) : Prop where
 g : B.Ns mainGlobals mg
 b : B.Ns builtinsNs mb
 lim : B.NoLimit
theorem Ev.glob {B : Heap} {names : zJ} {ρ : List (Str × RV)} {μ : List (Addr × D)} {mg mb : Str → Option Value} (G : Gl B mg mb) (S : En prog w B names env h M ρ μ) {x : Str} {v : Value} {p : Pos}
   (hx : names.lookup x = some .globalImplicit) (hv : mg x = some v ∨ (mg x = none ∧ mb x = some v)) (hd : (x == ("__debug__" : Str)) = false) :
   Ev prog w A h (.Name x p) env (fun _ u => u = v):=by
 intro s E Q k hQ
 have kb:=S.base.trans k
 refine Name_function_global S.n.fn (S.n.gi x hx) ?_ hd
 have hq:=hQ v s (zF s) rfl
 rcases hv with e | ⟨e,e'⟩
 · exact loadGlobal_global (by rw [S.n.glob]; exact G.g.keeps kb) e hq
 · exact loadGlobal_builtin (by rw [S.n.glob]; exact G.g.keeps kb) e (by rw [S.n.bl]; exact G.b.keeps kb) e' hq
noncomputable def yL (prog : Program) (w : World) (op : Operator) (da db d : D) : Prop :=
 ∀ (A : Around) (M : Addr → Prop) (s : Shared) (E : Value → Shared → Prop) (Q : Value → Shared → Prop) (a b : Value),(∀ a,M a → ∃ o,s.heap.get? a = some o) → Rd prog w s.heap M a da → Rd prog w s.heap M b db →
  (∀ v s',Keeps s s' → Rp prog w s'.heap M v d → Q v s') → wpAny (model prog w) A (binaryOp op a b) Q E s
theorem Ev.bin {B : Heap} {names : zJ} {ρ : List (Str × RV)} {μ : List (Addr × D)} (S : En prog w B names env h M ρ μ) {l r : Expr} {op : Operator} {p : Pos} {da db d : D} (hl : Ev prog w A h l env (PR prog w M da)) (hr : Ev prog w A h r env (PR prog w M db)) (ho : yL prog w op da db d) :
  Ev prog w A h (.BinOp l op r p) env (PS prog w M d):=by
 intro s E Q k hQ
 refine wpAny_BinOp (hl s E _ k fun a s₁ k₁ ra => ?_)
 refine hr s₁ E _ (k.trans (ke k₁)) fun b s₂ k₂ rb => ?_
 refine ho A M s₂ E Q a b (fun x m => ?_) (ra.ext (ke k₂)) rb fun v s' k₃ rv => hQ v s' (zA k₁ (zA k₂ k₃)) rv
 obtain ⟨o,e⟩:=S.old x m
 exact ⟨o,ke k₂ _ _ (ke k₁ _ _ (k _ _ e))⟩
theorem yL.add (a b : Int) : yL prog w .Add (.int a) (.int b) (.int (a + b)):=by
 intro A M s E Q x y _ rx ry hQ
 obtain ⟨t,rfl⟩:=rx.int_inv; obtain ⟨u,rfl⟩:=ry.int_inv
 exact add_int (hQ _ _ (zI s _) (.int _ _))
theorem yL.sub (a b : Int) : yL prog w .Sub (.int a) (.int b) (.int (a - b)):=by
 intro A M s E Q x y _ rx ry hQ
 obtain ⟨t,rfl⟩:=rx.int_inv; obtain ⟨u,rfl⟩:=ry.int_inv
 exact sub_int (hQ _ _ (zI s _) (.int _ _))
theorem yL.mod (a b : Int) (hb : b ≠ 0) (hp : Builtin.divisionGoesByPylong a b = false) : yL prog w .Mod (.int a) (.int b) (.int (a.fmod b)):=by
 intro A M s E Q x y _ rx ry hQ
 obtain ⟨t,rfl⟩:=rx.int_inv; obtain ⟨u,rfl⟩:=ry.int_inv
 exact mod_int hb (hQ _ _ (zI s _) (.int _ _))
theorem yL.and (a b : Int) : yL prog w .BitAnd (.int a) (.int b) (.int (Builtin.bitAnd a b)):=by
 intro A M s E Q x y _ rx ry hQ
 obtain ⟨t,rfl⟩:=rx.int_inv; obtain ⟨u,rfl⟩:=ry.int_inv
 exact and_int (hQ _ _ (zI s _) (.int _ _))
theorem yL.or (a b : Int) : yL prog w .BitOr (.int a) (.int b) (.int (Builtin.bitOr a b)):=by
 intro A M s E Q x y _ rx ry hQ
 obtain ⟨t,rfl⟩:=rx.int_inv; obtain ⟨u,rfl⟩:=ry.int_inv
 exact or_int (hQ _ _ (zI s _) (.int _ _))
theorem yL.shl (a n : Int) (h0 : 0 ≤ n) (h1 : n ≤ 1000000) (h2 : a.natAbs < 2 ^ 64) : yL prog w .LShift (.int a) (.int n) (.int (a * 2 ^ n.toNat)):=by
 intro A M s E Q x y _ rx ry hQ
 obtain ⟨t,rfl⟩:=rx.int_inv; obtain ⟨u,rfl⟩:=ry.int_inv
 exact lshift_int_small h0 h1 h2 (hQ _ _ (zI s _) (.int _ _))
theorem yL.shr (a n : Int) (h0 : 0 ≤ n) : yL prog w .RShift (.int a) (.int n) (.int (a.fdiv (2 ^ n.toNat))):=by
 intro A M s E Q x y _ rx ry hQ
 obtain ⟨t,rfl⟩:=rx.int_inv; obtain ⟨u,rfl⟩:=ry.int_inv
 exact rshift_int h0 (hQ _ _ (zI s _) (.int _ _))
theorem yL.mul (a b : Int) (hm : IntMulOk a b) : yL prog w .Mult (.int a) (.int b) (.int (a * b)):=by
 intro A M s E Q x y _ rx ry hQ
 obtain ⟨t,rfl⟩:=rx.int_inv; obtain ⟨u,rfl⟩:=ry.int_inv
 exact mul_int (hQ _ _ (zI s _) (.int _ _)) hm
theorem yL.fdiv (a b : Int) (hb : b ≠ 0) (hp : Builtin.divisionGoesByPylong a b = false) : yL prog w .FloorDiv (.int a) (.int b) (.int (a.fdiv b)):=by
 intro A M s E Q x y _ rx ry hQ
 obtain ⟨t,rfl⟩:=rx.int_inv; obtain ⟨u,rfl⟩:=ry.int_inv
 exact floordiv_int hb (hQ _ _ (zI s _) (.int _ _)) (.inl hp)
theorem yL.addB (a b : Bool) : yL prog w .Add (.bool a) (.bool b) (.int (b2i a + b2i b)):=by
 intro A M s E Q x y _ rx ry hQ
 obtain rfl:=rx.bool_inv; obtain rfl:=ry.bool_inv
 exact add_bool (hQ _ _ (zI s _) (.int _ _))
theorem yL.addIB (a : Int) (b : Bool) : yL prog w .Add (.int a) (.bool b) (.int (a + if b = true then 1 else 0)):=by
 intro A M s E Q x y _ rx ry hQ
 obtain ⟨t,rfl⟩:=rx.int_inv; obtain rfl:=ry.bool_inv
 exact add_int_bool (hQ _ _ (zI s _) (.int _ _))
theorem yL.addS (x y : Str) (hs : x.length + y.length ≤ sizeLine) : yL prog w .Add (.str x) (.str y) (.str (x ++ y)):=by
 intro A M s E Q a b _ rx ry hQ
 obtain ⟨t,rfl⟩:=rx.str_inv; obtain ⟨u,rfl⟩:=ry.str_inv
 exact add_str (fun t' tk => hQ _ _ (zI s _) (.str _ _)) hs
theorem wv {s : Shared} (old : ∀ a,M a → ∃ o,s.heap.get? a = some o) : ¬ M s.heap.objs.size:=fun m => by
 obtain ⟨o,e⟩:=old _ m
 exact absurd (Heap.lt_size e) (Nat.lt_irrefl _)
theorem wK {h : Heap} {vs : List Value} {ds : List D} (r : zE prog w h M vs ds) (n : Nat) (hm : ¬ M h.objs.size) :
  Rp prog w (h.push { cls:=.type "list",data:=.seq vs.toArray n }) M (.ref h.objs.size) (.list ds) :=
 .list ⟨n,Heap.get?_push_size _ rfl⟩ hm (r.ext fun _ _ e => Heap.get?_push_of_some _ e)
theorem j6 {h : Heap} {vs : List Value} {ds : List D} (r : zE prog w h M vs ds) (n : Nat) (hm : ¬ M h.objs.size) :
  Rp prog w (h.push { cls:=.type "tuple",data:=.seq vs.toArray n }) M (.ref h.objs.size) (.tup ds) :=
 .tup ⟨n,Heap.get?_push_size _ rfl⟩ hm (r.ext fun _ _ e => Heap.get?_push_of_some _ e)
theorem yL.addL (xs ys : List D) (hs : xs.length + ys.length ≤ sizeLine) : yL prog w .Add (.list xs) (.list ys) (.list (xs ++ ys)):=by
 intro A M s E Q x y old rx ry hQ
 obtain ⟨l,vs,rfl,⟨n,ho⟩,ra⟩:=rx.list_inv; obtain ⟨b,ws,rfl,⟨n2,ho2⟩,rb⟩:=ry.list_inv
 have e : vs.toArray ++ ws.toArray = (vs ++ ws).toArray:=by simp
 refine concat_meets ⟨_,ho,rfl⟩ ⟨_,ho2,rfl⟩ noFill_list_add seq_list_add PySem.F.slot_list_add PySem.F.entry_list_add (PySem.F.args_list_add_2 _ _) (list_addW l b vs.toArray ws.toArray n n2 none none #[] #[] (by simpa [ra.length,rb.length] using hs)) ⟨ho,ho2, ?_⟩
 rw [e]
 exact hQ _ _ (zQ s _ s.toks) (wK (ra.append rb) _ (wv old))
end
open PySem PySem.Calls PyProof.Rows PySem.SeqAt
structure Rm (A : Around) (k : Nat) : Prop where
 hh : A.handled = none
 hd : A.depth + k < 990
 hu : A.units + 4 * k + 200 < 9900
theorem Rm.le {A : Around} {k j : Nat} (r : Rm A k) (h : j ≤ k) : Rm A j :=
 ⟨r.hh,Nat.lt_of_le_of_lt (Nat.add_le_add_left h _) r.hd,Nat.lt_of_le_of_lt (Nat.add_le_add_right (Nat.add_le_add_left (Nat.mul_le_mul_left 4 h) _) 200) r.hu⟩
theorem rmA (a b k : Nat) (h : a + 4 * (k + 1) + 200 < 9900) (e : b ≤ a + 4) : b + 4 * k + 200 < 9900:=by omega
theorem rmD (a k : Nat) (h : a + (k + 1) < 990) : a + 1 + k < 990:=by omega
theorem Rm.deeper {A : Around} {k : Nat} (r : Rm A (k + 1)) (env : Env) : Rm (A.deeper env) k:=⟨r.hh,rmD A.depth k r.hd,rmA A.units (A.units + 3) k r.hu (Nat.le_succ _)⟩
theorem Rm.in1 {A : Around} {k : Nat} (r : Rm A (k + 1)) : Rm A.in1 k:=⟨r.hh,Nat.lt_of_succ_lt r.hd,rmA A.units (A.units + 1) k r.hu (Nat.add_le_add_left (by decide) _)⟩
theorem Rm.lo {A : Around} {k : Nat} (r : Rm A k) : A.units + 200 < 9900:=Nat.lt_of_le_of_lt (Nat.add_le_add_right (Nat.le_add_right _ _) 200) r.hu
mutual
noncomputable def xb : D → PyData
 | .none => .none
 | .bool b => .bool b
 | .int i => .int i
 | .str x => .str x
 | .list xs => .list (wc xs)
 | .tup xs => .tuple (wc xs)
 | .bytes _ | .dct _ _ | .rng _ _ _ | .typ _ | .ob _ _ | .bit _ _ | .obs _ _ _ => .none
noncomputable def wc : List D → List PyData
 | [] => []
 | x :: xs => xb x :: wc xs
end
noncomputable def okS (b : Bool) (f : D → Bool) : D → Bool
 | .none | .bool _ | .int _ => true
 | .str x => PyData.strOk x
 | .list xs | .tup xs => b && xs.all f
 | .bytes _ | .dct _ _ | .rng _ _ _ | .typ _ | .ob _ _ | .bit _ _ | .obs _ _ _ => false
noncomputable def w8 : Nat → D → Bool
 | 0 => okS false fun _ => false
 | n + 1 => okS true (w8 n)
theorem xz {n : Nat} {xs : List D} : w8 (n + 1) (.list xs) = xs.all (w8 n):=rfl
section
variable {prog : Program} {w : World} {h : Heap} {M : Addr → Prop}
theorem jP {n : Nat} (ih : ∀ {v : Value} {d : D},Rp prog w h M v d → w8 n d = true → ∃ as,Reads h v (xb d) as) {vs : List Value} {ds : List D} (r : zE prog w h M vs ds) (k : ds.all (w8 n) = true) : ∃ as,ReadsAll h vs (wc ds) as:=by
 induction ds generalizing vs with
 | nil => rw [show vs = [] from r.inv]; exact ⟨_,.nil⟩
 | cons d ds hi =>
  obtain ⟨u,us,rfl,x,q⟩:=r.inv
  obtain ⟨k1,k2⟩:=Bool.and_eq_true_iff.mp k
  obtain ⟨as,p⟩:=ih x k1
  obtain ⟨bs,p'⟩:=hi q k2
  exact ⟨_,.cons p p'⟩
theorem XA (n : Nat) {v : Value} {d : D} (r : Rp prog w h M v d) (k : w8 n d = true) : ∃ as,Reads h v (xb d) as:=by
 induction n generalizing v d with
 | zero =>
  revert k
  exact Rp.casesOn (motive_1:=fun v d _ => w8 0 d = true → ∃ as,Reads h v (xb d) as) r (fun _ => ⟨_,.none⟩) (fun b _ => ⟨_,.bool b⟩) (fun i t _ => ⟨_,.int i t⟩) (fun x t _ => ⟨_,.str x t⟩) (fun _ _ k => (Bool.false_ne_true k).elim) (fun _ k => (Bool.false_ne_true k).elim) (fun _ _ _ k => (Bool.false_ne_true k).elim) (fun _ _ _ k => (Bool.false_ne_true k).elim) (fun _ _ _ _ _ k => (Bool.false_ne_true k).elim) (fun _ _ k => (Bool.false_ne_true k).elim) (fun _ _ k => (Bool.false_ne_true k).elim) (fun _ _ k => (Bool.false_ne_true k).elim) (fun _ _ _ k => (Bool.false_ne_true k).elim)
 | succ n ih =>
  revert k
  exact Rp.casesOn (motive_1:=fun v d _ => w8 (n + 1) d = true → ∃ as,Reads h v (xb d) as) r (fun _ => ⟨_,.none⟩) (fun b _ => ⟨_,.bool b⟩) (fun i t _ => ⟨_,.int i t⟩) (fun x t _ => ⟨_,.str x t⟩) (fun _ _ k => (Bool.false_ne_true k).elim) (fun _ k => (Bool.false_ne_true k).elim)
   (fun e _ r k => let ⟨_,q⟩:=jP ih r k; let ⟨_,e⟩:=e; ⟨_,.list e rfl rfl q⟩) (fun e _ r k => let ⟨_,q⟩:=jP ih r k; let ⟨_,e⟩:=e; ⟨_,.tuple e rfl rfl q⟩) (fun _ _ _ _ _ k => (Bool.false_ne_true k).elim) (fun _ _ k => (Bool.false_ne_true k).elim) (fun _ _ k => (Bool.false_ne_true k).elim) (fun _ _ k => (Bool.false_ne_true k).elim) (fun _ _ _ k => (Bool.false_ne_true k).elim)
theorem xW (n : Nat) {v : Value} {d : D} (r : Rd prog w h M v d) (k : w8 n d = true) : ∃ as,Reads h v (xb d) as:=by
 rcases r with r | ⟨a,rfl,c⟩
 · exact XA n r k
 · revert k
   refine zc.casesOn (motive:=fun d _ => w8 n d = true → ∃ as,Reads h (.ref a) (xb d) as) c (fun e r k => ?_) (fun _ _ _ _ k => ?_) (fun _ _ k => ?_) (fun _ k => ?_) <;> cases n <;> try exact (Bool.false_ne_true k).elim
   obtain ⟨_,q⟩:=jP (XA _) r k
   obtain ⟨_,e⟩:=e
   exact ⟨_,.list e rfl rfl q⟩
end
theorem jv {n : Nat} (ih : ∀ d,w8 n d = true → (xb d).canLay0 = true ∧ (xb d).depth ≤ n) (ds : List D) (h : ds.all (w8 n) = true) : PyData.canLayAll0 (wc ds) = true ∧ PyData.depthAll (wc ds) ≤ n:=by
 induction ds with
 | nil => exact ⟨rfl,Nat.zero_le _⟩
 | cons d ds hi =>
  obtain ⟨k1,k2⟩:=Bool.and_eq_true_iff.mp h
  exact ⟨Bool.and_eq_true_iff.mpr ⟨(ih d k1).1,(hi k2).1⟩,Nat.max_le.mpr ⟨(ih d k1).2,(hi k2).2⟩⟩
theorem qy (n : Nat) (d : D) (h : w8 n d = true) : (xb d).canLay0 = true ∧ (xb d).depth ≤ n:=by
 induction n generalizing d with
 | zero => cases d <;> first | exact (Bool.false_ne_true h).elim | exact ⟨h,Nat.le_refl _⟩
 | succ n ih => cases d <;> first | exact (Bool.false_ne_true h).elim | exact ⟨h,Nat.zero_le _⟩ | exact ⟨(jv ih _ h).1,Nat.succ_le_succ (jv ih _ h).2⟩ | exact ⟨(jv ih _ h).1,(Nat.add_comm 1 _).symm ▸ Nat.succ_le_succ (jv ih _ h).2⟩
theorem wk {d : D} (h : w8 8 d = true) : shaped (xb d) = true:=by
 obtain ⟨a,b⟩:=qy 8 d h
 unfold shaped
 rw [a,Bool.true_and]
 exact decide_eq_true (Nat.le_trans b (by decide))
noncomputable def We (a b : D) : Bool:=PyData.eqv (xb a) (xb b)
theorem Yo {n : Nat} (ih : ∀ d,w8 n d = true → PyData.eqv (xb d) (xb d) = true) (ds : List D) (h : ds.all (w8 n) = true) : PyData.eqvAll (wc ds) (wc ds) = true:=by
 induction ds with
 | nil => rfl
 | cons d ds hi =>
  obtain ⟨k1,k2⟩:=Bool.and_eq_true_iff.mp h
  exact Bool.and_eq_true_iff.mpr ⟨ih d k1,hi k2⟩
theorem QV (n : Nat) (d : D) (h : w8 n d = true) : PyData.eqv (xb d) (xb d) = true:=by
 induction n generalizing d with
 | zero => cases d <;> first | exact (Bool.false_ne_true h).elim | exact beq_self_eq_true _ | rfl
 | succ n ih => cases d <;> first | exact (Bool.false_ne_true h).elim | exact beq_self_eq_true _ | exact Yo ih _ h | rfl
theorem Zx (d : D) : ∀ ds : List D,((wc ds).any fun y => PyData.eqv y (xb d)) = ds.any fun y => We y d
 | [] => rfl
 | y :: ds => by
  simp only [wc,List.any_cons]
  rw [Zx d ds]
  rfl
theorem yt {d : D} (h : w8 8 d = true) : We d d = true:=QV 8 d h
section
variable {prog : Program} {w : World} {A : Around} {h : Heap} {env : Env} {M : Addr → Prop}
noncomputable def zN (prog : Program) (w : World) (op : CmpOp) (da db : D) (b : Bool) : Prop :=
 ∀ (A : Around) (M : Addr → Prop) (s : Shared) (E : Value → Shared → Prop) (Q : Value → Shared → Prop) (x y : Value),A.units + 200 < 9900 → Rd prog w s.heap M x da → Rd prog w s.heap M y db →
  (∀ s',Keeps s s' → Q (.bool b) s') → wpAny (model prog w) A (compareOp op x y) Q E s
theorem Ev.cmp {l r : Expr} {op : CmpOp} {p : Pos} {da db : D} {b : Bool} (R : Rm A 0) (hl : Ev prog w A h l env (PR prog w M da)) (hr : Ev prog w A h r env (PR prog w M db)) (ho : zN prog w op da db b) (hm : behindInMarks op r = false) :
  Ev prog w A h (.Compare l [op] [r] p) env (PS prog w M (.bool b)):=by
 intro s E Q k hQ
 refine wpAny_Compare1 (hl s E _ k fun a s₁ k₁ ra => ?_) hm
 refine hr s₁ E _ (k.trans (ke k₁)) fun b s₂ k₂ rb => ?_
 exact ho A M s₂ E Q a b R.lo (ra.ext (ke k₂)) rb fun s' k₃ => hQ _ s' (zA k₁ (zA k₂ k₃)) (.bool _)
theorem Tv.cmp {l r : Expr} {op : CmpOp} {p : Pos} {da db : D} {b : Bool} (R : Rm A 0) (hl : Ev prog w A h l env (PR prog w M da)) (hr : Ev prog w A h r env (PR prog w M db)) (ho : zN prog w op da db b) (hm : behindInMarks op r = false) :
  Tv prog w A h (.Compare l [op] [r] p) env b:=by
 intro s E Q k hQ
 refine wpAny_isTrue_Compare1 (hl s E _ k fun a s₁ k₁ ra => ?_) hm
 refine hr s₁ E _ (k.trans (ke k₁)) fun b s₂ k₂ rb => ?_
 exact ho A M s₂ E _ a b R.lo (ra.ext (ke k₂)) rb fun s' k₃ => wpAny_truthy_bool (hQ s' (zA k₁ (zA k₂ k₃)))
theorem zN.lt (a b : Int) : zN prog w .Lt (.int a) (.int b) (decide (a < b)):=by
 intro A M s E Q x y _ rx ry hQ
 obtain ⟨t,rfl⟩:=rx.int_inv; obtain ⟨u,rfl⟩:=ry.int_inv
 exact lt_int (hQ _ (zF s))
theorem zN.gt (a b : Int) : zN prog w .Gt (.int a) (.int b) (decide (b < a)):=by
 intro A M s E Q x y _ rx ry hQ
 obtain ⟨t,rfl⟩:=rx.int_inv; obtain ⟨u,rfl⟩:=ry.int_inv
 exact gt_int (hQ _ (zF s))
theorem zN.eqI (a b : Int) : zN prog w .Eq (.int a) (.int b) (a == b):=by
 intro A M s E Q x y _ rx ry hQ
 obtain ⟨t,rfl⟩:=rx.int_inv; obtain ⟨u,rfl⟩:=ry.int_inv
 exact eq_int (hQ _ (zF s))
theorem zN.neI (a b : Int) : zN prog w .NotEq (.int a) (.int b) (a != b):=by
 intro A M s E Q x y _ rx ry hQ
 obtain ⟨t,rfl⟩:=rx.int_inv; obtain ⟨u,rfl⟩:=ry.int_inv
 exact ne_int (hQ _ (zF s))
theorem zN.eq {da db : D} (ha : w8 8 da = true) (hb : w8 8 db = true) : zN prog w .Eq da db (We da db):=by
 intro A M s E Q x y hu rx ry hQ
 obtain ⟨as,ra⟩:=xW 8 rx ha
 obtain ⟨bs,rb⟩:=xW 8 ry hb
 exact eq_dataH ra rb (wk ha) (wk hb) (by rw [cLine_is]; omega) (hQ _ (zF s))
theorem zN.ne {da db : D} (ha : w8 8 da = true) (hb : w8 8 db = true) : zN prog w .NotEq da db (!We da db):=by
 intro A M s E Q x y hu rx ry hQ
 obtain ⟨as,ra⟩:=xW 8 rx ha
 obtain ⟨bs,rb⟩:=xW 8 ry hb
 exact ne_dataH ra rb (wk ha) (wk hb) (by rw [cLine_is]; omega) (hQ _ (zF s))
theorem zN.inL {d : D} {ds : List D} (ha : w8 8 (.list ds) = true) (hb : w8 8 d = true) : zN prog w .In d (.list ds) (ds.any fun y => We y d):=by
 intro A M s E Q x y hu rx ry hQ
 obtain ⟨as,ra⟩:=xW 8 ry ha
 obtain ⟨bs,rb⟩:=xW 8 rx hb
 have l1:=qy 8 _ ha
 have l2:=qy 8 _ hb
 rw [xb] at ra l1
 simp only [PyData.canLay0] at l1
 have e:=Zx d ds
 refine SeqAt.in_list_reads ra rb l1.1 l2.1 ?_ (by rw [e]; exact hQ _ (zF s))
 have:=Nat.min_le_right (PyData.depthAll (wc ds)) (xb d).depth
 rw [cLine_is]; omega
theorem zN.notInL {d : D} {ds : List D} (ha : w8 8 (.list ds) = true) (hb : w8 8 d = true) : zN prog w .NotIn d (.list ds) (!ds.any fun y => We y d):=by
 intro A M s E Q x y hu rx ry hQ
 obtain ⟨as,ra⟩:=xW 8 ry ha
 obtain ⟨bs,rb⟩:=xW 8 rx hb
 have l1:=qy 8 _ ha
 have l2:=qy 8 _ hb
 rw [xb] at ra l1
 simp only [PyData.canLay0] at l1
 have e:=Zx d ds
 refine SeqAt.notIn_list_reads ra rb l1.1 l2.1 ?_ (by rw [e]; exact hQ _ (zF s))
 have:=Nat.min_le_right (PyData.depthAll (wc ds)) (xb d).depth
 rw [cLine_is]; omega
noncomputable def isNone : D → Option Bool
 | .none => some true
 | .bool _ | .str _ | .int _ | .list _ | .tup _ | .ob _ _ => some false
 | .bytes _ | .dct _ _ | .rng _ _ _ | .typ _ | .bit _ _ | .obs _ _ _ => none
noncomputable def KX (c : Bool) : D → Option Bool
 | .bool b => some (b == c)
 | .none => some false
 | .str _ | .int _ | .list _ | .tup _ | .ob _ _ | .bytes _ | .dct _ _ | .rng _ _ _ | .typ _ | .bit _ _ | .obs _ _ _ => none
noncomputable def zAb (c : String) : D → Option Bool
 | .typ b => some (b == c)
 | .none | .bool _ | .str _ | .int _ | .list _ | .tup _ | .ob _ _ | .bytes _ | .dct _ _ | .rng _ _ _ | .bit _ _ | .obs _ _ _ => none
noncomputable def isD (a : D) : D → Option Bool
 | .none => isNone a
 | .bool c => KX c a
 | .typ c => zAb c a
 | .str _ | .int _ | .list _ | .tup _ | .ob _ _ | .bytes _ | .dct _ _ | .rng _ _ _ | .bit _ _ | .obs _ _ _ => none
theorem vr {α : Type} {b : α} (e : none = some b) : False:=nomatch e
theorem Zi {h : Heap} {da db : D} {b : Bool} {x y : Value} (e : isD da db = some b) (rx : Rd prog w h M x da) (ry : Rd prog w h M y db) : plainIs x y = true ∧ (x == y) = b:=by
 cases db <;> try exact (vr e).elim
 · rw [ry.none_inv]
   cases da <;> (try exact (vr e).elim) <;> cases Option.some.inj e
   · rw [rx.none_inv]; exact ⟨rfl,rfl⟩
   · rw [rx.bool_inv]; exact ⟨rfl,rfl⟩
   · obtain ⟨_,q⟩:=rx.int_inv; rw [q]; exact ⟨rfl,rfl⟩
   · obtain ⟨_,q⟩:=rx.str_inv; rw [q]; exact ⟨rfl,rfl⟩
   · obtain ⟨_,_,q,_⟩:=rx.list_inv; rw [q]; exact ⟨rfl,rfl⟩
   · obtain ⟨_,_,q,_⟩:=rx.tup_inv; rw [q]; exact ⟨rfl,rfl⟩
   · rw [rx.ob_inv.1]; exact ⟨rfl,rfl⟩
 · rename_i c
   rw [ry.bool_inv]
   cases da <;> (try exact (vr e).elim) <;> cases Option.some.inj e
   · rw [rx.none_inv]; exact ⟨rfl,rfl⟩
   · rename_i a; rw [rx.bool_inv]; exact ⟨rfl,by cases a <;> cases c <;> rfl⟩
 · rename_i c
   rw [ry.typ_inv]
   cases da <;> (try exact (vr e).elim) <;> cases Option.some.inj e
   rename_i a
   rw [rx.typ_inv]
   refine ⟨rfl, ?_⟩
   rw [Bool.eq_iff_iff,beq_iff_eq,beq_iff_eq]
   exact ⟨fun e => by injection e,fun e => e ▸ rfl⟩
theorem zN.is {da db : D} {b : Bool} (e : isD da db = some b) : zN prog w .Is da db b:=by
 intro A M s E Q x y hu rx ry hQ
 obtain ⟨p,q⟩:=Zi e rx ry
 exact wpAny_is_plain p (by rw [q]; exact hQ _ (zF s))
theorem zN.isNot {da db : D} {b : Bool} (e : isD da db = some b) : zN prog w .IsNot da db (!b):=by
 intro A M s E Q x y hu rx ry hQ
 obtain ⟨p,q⟩:=Zi e rx ry
 exact wpAny_isNot_plain p (by rw [q]; exact hQ _ (zF s))
noncomputable def yq (prog : Program) (w : World) (d : D) (b : Bool) : Prop :=
 ∀ (A : Around) (M : Addr → Prop) (s : Shared) (E : Value → Shared → Prop) (Q : Bool → Shared → Prop) (v : Value),Rd prog w s.heap M v d → (∀ s',Keeps s s' → Q b s') → wpAny (model prog w) A (truthy v) Q E s
theorem yq.bool (b : Bool) : yq prog w (.bool b) b:=by
 intro A M s E Q v r hQ
 obtain rfl:=r.bool_inv
 exact wpAny_truthy_bool (hQ _ (zF s))
theorem yq.none : yq prog w .none false:=by
 intro A M s E Q v r hQ
 obtain rfl:=r.none_inv
 exact truthy_none (hQ _ (zF s))
theorem yq.int (i : Int) : yq prog w (.int i) (i != 0):=by
 intro A M s E Q v r hQ
 obtain ⟨t,rfl⟩:=r.int_inv
 exact truthy_int (hQ _ (zF s))
theorem yq.str (x : Str) (hx : x.length ≤ sizeLine) : yq prog w (.str x) ((x.length : Int) != 0):=by
 intro A M s E Q v r hQ
 obtain ⟨t,rfl⟩:=r.str_inv
 exact P.truthy_str (by rw [sizeLine_eq] at hx; omega) (hQ _ (zI s _))
theorem yq.list (xs : List D) (hx : xs.length ≤ sizeLine) : yq prog w (.list xs) (!xs.isEmpty):=by
 intro A M s E Q v r hQ
 obtain ⟨a,vs,rfl,p,q⟩:=r.list_inv
 have e:=q.length
 refine wpAny_truthy_list p.isList (by rw [sizeLine_eq] at hx; simp; omega) ?_
 have e2 : vs.toArray.isEmpty = xs.isEmpty:=by cases vs <;> cases xs <;> first | rfl | cases e
 rw [e2]
 exact hQ _ (zI s _)
theorem Tv.plain {e : Expr} {d : D} {b : Bool} (hv : Ev prog w A h e env (PR prog w M d)) (ht : yq prog w d b) (he : isTrue e env (eval e env) = (do let v ← eval e env; standAt e.pos; holding [v] (truthy v))) : Tv prog w A h e env b:=by
 intro s E Q k hQ
 refine isTrue_plain (hv s E _ k fun v s₁ k₁ r => ?_) he
 exact ht A M s₁ E Q v r fun s' k₂ => hQ s' (zA k₁ k₂)
theorem Tv.not {x : Expr} {p : Pos} {b : Bool} (hx : Tv prog w A h x env b) : Tv prog w A h (.UnaryOp .Not x p) env (!b):=by
 intro s E Q k hQ
 exact isTrue_not (hx s E _ k fun s₁ k₁ => hQ s₁ k₁)
theorem Tv.or_nil {p : Pos} : Tv prog w A h (.BoolOp .Or [] p) env false:=fun s E Q k hQ => isTrue_or_nil (hQ s (zF s))
theorem Tv.or_cons {x : Expr} {xs : List Expr} {p : Pos} {a b : Bool} (hx : Tv prog w A h x env a) (hy : a = false → Tv prog w A h (.BoolOp .Or xs p) env b) : Tv prog w A h (.BoolOp .Or (x :: xs) p) env (a || b):=by
 intro s E Q k hQ
 refine isTrue_or (hx s E _ k fun s₁ k₁ => ?_)
 cases a with
 | true => exact hQ s₁ k₁
 | false => exact hy rfl s₁ E Q (k.trans (ke k₁)) fun s₂ k₂ => hQ s₂ (zA k₁ k₂)
theorem Tv.and_nil {p : Pos} : Tv prog w A h (.BoolOp .And [] p) env true:=fun s E Q k hQ => isTrue_and_nil (hQ s (zF s))
theorem Tv.and_cons {x : Expr} {xs : List Expr} {p : Pos} {a b : Bool} (hx : Tv prog w A h x env a) (hy : a = true → Tv prog w A h (.BoolOp .And xs p) env b) : Tv prog w A h (.BoolOp .And (x :: xs) p) env (a && b):=by
 intro s E Q k hQ
 refine isTrue_and (hx s E _ k fun s₁ k₁ => ?_)
 cases a with
 | false => exact hQ s₁ k₁
 | true => exact hy rfl s₁ E Q (k.trans (ke k₁)) fun s₂ k₂ => hQ s₂ (zA k₁ k₂)
theorem Ev.not {x : Expr} {p : Pos} {d : D} {b : Bool} (hx : Ev prog w A h x env (PR prog w M d)) (ht : yq prog w d b) : Ev prog w A h (.UnaryOp .Not x p) env (PS prog w M (.bool !b)):=by
 intro s E Q k hQ
 refine UnaryOp_ (hx s E _ k fun v s₁ k₁ r => ?_)
 exact not_of (ht A M s₁ E _ v r fun s₂ k₂ => hQ _ s₂ (zA k₁ k₂) (.bool _))
theorem Ev.neg {x : Expr} {p : Pos} {i : Int} (hx : Ev prog w A h x env (PR prog w M (.int i))) : Ev prog w A h (.UnaryOp .USub x p) env (PS prog w M (.int (-i))):=by
 intro s E Q k hQ
 refine UnaryOp_ (hx s E _ k fun v s₁ k₁ r => ?_)
 obtain ⟨t,rfl⟩:=r.int_inv
 exact neg_int (hQ _ _ (zA k₁ (zI s₁ _)) (.int _ _))
theorem Ev.or2 {x y : Expr} {p : Pos} {d e : D} {b : Bool} (hx : Ev prog w A h x env (PS prog w M d)) (ht : yq prog w d b) (hy : b = false → Ev prog w A h y env (PS prog w M e)) :
  Ev prog w A h (.BoolOp .Or [x,y] p) env (PS prog w M (if b then d else e)):=by
 intro s E Q k hQ
 refine wpAny_Or2 (hx s E _ k fun v s₁ k₁ r => ?_)
 refine ht A M s₁ E _ v (.inl r) fun s₂ k₂ => ?_
 cases b with
 | true => exact hQ v s₂ (zA k₁ k₂) (r.ext (ke k₂))
 | false => exact hy rfl s₂ E Q (k.trans ((ke k₁).trans (ke k₂))) fun u s₃ k₃ q => hQ u s₃ (zA k₁ (zA k₂ k₃)) q
theorem Ev.and2 {x y : Expr} {p : Pos} {d e : D} {b : Bool} (hx : Ev prog w A h x env (PS prog w M d)) (ht : yq prog w d b) (hy : b = true → Ev prog w A h y env (PS prog w M e)) :
  Ev prog w A h (.BoolOp .And [x,y] p) env (PS prog w M (if b then e else d)):=by
 intro s E Q k hQ
 refine wpAny_And2 (hx s E _ k fun v s₁ k₁ r => ?_)
 refine ht A M s₁ E _ v (.inl r) fun s₂ k₂ => ?_
 cases b with
 | false => exact hQ v s₂ (zA k₁ k₂) (r.ext (ke k₂))
 | true => exact hy rfl s₂ E Q (k.trans ((ke k₁).trans (ke k₂))) fun u s₃ k₃ q => hQ u s₃ (zA k₁ (zA k₂ k₃)) q
theorem Ev.ifExp {t x y : Expr} {p : Pos} {d e : D} {b : Bool} (ht : Tv prog w A h t env b) (hx : b = true → Ev prog w A h x env (PS prog w M d)) (hy : b = false → Ev prog w A h y env (PS prog w M e)) :
  Ev prog w A h (.IfExp t x y p) env (PS prog w M (if b then d else e)):=by
 intro s E Q k hQ
 refine wpAny_IfExp (ht s E _ k fun s₁ k₁ => ?_)
 cases b with
 | true => exact hx rfl s₁ E Q (k.trans (ke k₁)) fun u s₃ k₃ q => hQ u s₃ (zA k₁ k₃) q
 | false => exact hy rfl s₁ E Q (k.trans (ke k₁)) fun u s₃ k₃ q => hQ u s₃ (zA k₁ k₃) q
theorem Ev.cast {e : Expr} {d d' : D} (x : Ev prog w A h e env (PS prog w M d)) (q : d = d') : Ev prog w A h e env (PS prog w M d'):=q ▸ x
theorem Tv.cast {e : Expr} {d d' : Bool} (x : Tv prog w A h e env d) (q : d = d') : Tv prog w A h e env d':=q ▸ x
inductive ZU (prog : Program) (w : World) (A : Around) (h : Heap) (env : Env) (M : Addr → Prop) : List Expr → List D → Prop
 | nil : ZU prog w A h env M [] []
 | cons {e : Expr} {es : List Expr} {d : D} {ds : List D} : Ev prog w A h e env (PS prog w M d) → ZU prog w A h env M es ds → (∀ rest,starEach (e :: rest) env = (false,eval e env) :: starEach rest env) → ZU prog w A h env M (e :: es) (d :: ds)
theorem wJ {es : List Expr} {ds : List D} {pos : Pos} (x : ZU prog w A h env M es ds) : ∀ (s : Shared) (E : Value → Shared → Prop) (Q : List Value → Shared → Prop),zR h s.heap →
  (∀ vs s',Keeps s s' → zE prog w s'.heap M vs ds → Q vs s') → wpAny (model prog w) A (spliced (backTo pos (starEach es env))) Q E s:=by
 induction x with
 | nil => intro s E Q k hQ; exact spliced_nil (hQ [] s (zF s) .nil)
 | @cons e es d ds hv _ hs ih =>
  intro s E Q k hQ
  rw [hs]
  show wpAny _ _ (spliced ((false,eval e env) :: backTo pos (starEach es env))) Q E s
  refine spliced_cons (hv s E _ k fun v s₁ k₁ r => ?_)
  exact ih s₁ E _ (k.trans (ke k₁)) fun vs s₂ k₂ rs => hQ _ s₂ (zA k₁ k₂) (.cons (r.ext (ke k₂)) rs)
theorem Ev.tuple {B : Heap} {names : zJ} {ρ : List (Str × RV)} {μ : List (Addr × D)} (S : En prog w B names env h M ρ μ) {es : List Expr} {ds : List D} {k : Nat} {p : Pos} (x : ZU prog w A h env M es ds) (hl : ds.length ≤ sizeLine) : Ev prog w A h (.Tuple es k p) env (PS prog w M (.tup ds)):=by
 intro s E Q k hQ
 refine Tuple_ (wJ x s E _ k fun vs s₁ k₁ rs => ?_)
 refine wpAny_newObj_type (hQ _ _ (zA k₁ (zQ s₁ _ _)) (j6 rs 0 (wv fun a m => ?_))) (by show vs.toArray.size ≤ sizeLine; rw [List.size_toArray,rs.length]; exact hl)
 obtain ⟨o,e⟩:=S.old a m
 exact ⟨o,ke k₁ _ _ (k _ _ e)⟩
theorem Ev.list {B : Heap} {names : zJ} {ρ : List (Str × RV)} {μ : List (Addr × D)} (S : En prog w B names env h M ρ μ) {es : List Expr} {ds : List D} {p : Pos} (x : ZU prog w A h env M es ds) (hl : ds.length ≤ sizeLine) : Ev prog w A h (.List es p) env (PS prog w M (.list ds)):=by
 intro s E Q k hQ
 refine List_ (wJ x s E _ k fun vs s₁ k₁ rs => ?_)
 refine wpAny_newObj_type (hQ _ _ (zA k₁ (zQ s₁ _ _)) (wK rs 0 (wv fun a m => ?_))) (by show vs.toArray.size ≤ sizeLine; rw [List.size_toArray,rs.length]; exact hl)
 obtain ⟨o,e⟩:=S.old a m
 exact ⟨o,ke k₁ _ _ (k _ _ e)⟩
end
noncomputable def wp (a b c : Int) : List Int:=(List.range (Builtin.Range.rangeSize a b c).toNat).map fun (i : Nat) => a + i * c
inductive zb : D → List D → Prop
 | list (xs : List D) : zb (.list xs) xs
 | tup (xs : List D) : zb (.tup xs) xs
 | rng {a b c : Int} : Builtin.Range.small a b c = true → zb (.rng a b c) ((wp a b c).map .int)
noncomputable def jj (o : Obj) : Prop:=(∃ vs,o.data = .fields vs) ∧ ∃ n,o.cls = .type n ∧ ["enumerate","zip","dict_itemiterator","dict_reverseitemiterator","odict_iterator","itertools.zip_longest","itertools.pairwise"].contains n = false ∧ n ≠ "bytes_iterator"
structure Src (prog : Program) (w : World) (A : Around) (h : Heap) (M : Addr → Prop) (xs : List D) (I : Addr) (fp wr : List Addr) (P : Nat → Value → Prop) (St : Nat → Heap → Prop) (s₂ : Shared) : Prop where
 W : Walks prog w A I fp wr xs.length P St
 st : St 0 s₂.heap
 lo : ∀ b ∈ fp,b < s₂.heap.objs.size
 fresh : ∀ b ∈ wr,h.get? b = none
 one : ∀ b ∈ wr,b = I
 live : ∀ i h,St i h → ∀ b ∈ wr,∃ o,h.get? b = some o
 own : ∀ i h,St i h → ∃ o,h.get? I = some o ∧ jj o
 item : ∀ i x,P i x → ∃ d,xs[i]? = some d ∧ Rp prog w h M x d
theorem zr (a b c : Int) : (wp a b c).length = (Builtin.Range.rangeSize a b c).toNat:=by simp [wp]
section
variable {prog : Program} {w : World} {A : Around} {h : Heap} {env : Env} {M : Addr → Prop}
theorem zS (h : Heap) : h.get? h.objs.size = none:=Heap.get?_none_of_le (Nat.le_refl _)
theorem zE.back {vs : List Value} {ds : List D} (r : zE prog w h M vs ds) {i : Nat} {v : Value} (e : vs[i]? = some v) : ∃ d,ds[i]? = some d ∧ Rp prog w h M v d:=by
 induction vs generalizing ds i with
 | nil => simp at e
 | cons u vs ih =>
  cases r with
  | cons x r =>
   cases i with
   | zero => simp at e; subst e; exact ⟨_,rfl,x⟩
   | succ i => simp at e; simpa using ih r e
theorem q9 (hh : A.handled = none) {d : D} {xs : List D} (hs : zb d xs) {s : Shared} {E : Value → Shared → Prop} {Q : Value → Shared → Prop} {v : Value} (r : Rd prog w s.heap M v d)
  (hQ : ∀ I fp wr P St s₂,Src prog w A s.heap M xs I fp wr P St s₂ → (∀ b ∈ fp,b ∈ wr ∨ v = .ref b) → Keeps s s₂ → Q (.ref I) s₂) : wpAny (model prog w) A (pyIter v) Q E s:=by
 cases hs with
 | list =>
  obtain ⟨a,vs,rfl,p,q⟩:=r.list_inv
  have hne : a ≠ s.heap.objs.size:=by obtain ⟨n,e⟩:=p; exact Nat.ne_of_lt (Heap.lt_size e)
  refine wpAny_pyIter_list p.isList (hQ _ [s.heap.objs.size,a] [s.heap.objs.size] (fun i v => vs.toArray[i]? = some v) (fun i h => h.IsListIter s.heap.objs.size a i ∧ h.IsList a vs.toArray) _ ⟨?_,⟨⟨_,Heap.get?_push_size _ rfl,rfl,rfl⟩,p.isList.push _⟩, ?_, ?_,fun b hb => by simpa using hb, ?_, ?_, ?_⟩ (fun b hb => by simp at hb; rcases hb with rfl | rfl; exact .inl (by simp); exact .inr rfl) (zQ s _ s.toks))
  · have W:=Walks.list (prog:=prog) (w:=w) hh s.heap.objs.size a hne vs.toArray
    have e : vs.toArray.size = xs.length:=by rw [List.size_toArray,q.length]
    rw [e] at W; exact W
  · intro b hb
    simp at hb
    rw [Heap.size_push]
    rcases hb with rfl | rfl
    · exact Nat.lt_succ_self _
    · obtain ⟨n,e⟩:=p; exact Nat.lt_succ_of_lt (Heap.lt_size e)
  · intro b hb; simp at hb; subst hb; exact zS _
  · intro i h st b hb; simp at hb; subst hb; obtain ⟨⟨o,e,_⟩,_⟩:=st; exact ⟨o,e⟩
  · intro i h st; obtain ⟨⟨o,e,c,f⟩,_⟩:=st; exact ⟨o,e,⟨_,f⟩,_,c,by decide,by decide⟩
  · intro i x hx
    exact q.back (by simpa using hx)
 | tup =>
  obtain ⟨a,vs,rfl,⟨n,p⟩,q⟩:=r.tup_inv
  have ht : s.heap.IsTuple a vs.toArray:=⟨_,p,rfl,n,rfl⟩
  have hne : a ≠ s.heap.objs.size:=Nat.ne_of_lt (Heap.lt_size p)
  refine wpAny_pyIter_tuple ht (hQ _ [s.heap.objs.size,a] [s.heap.objs.size] (fun i v => vs.toArray[i]? = some v) (fun i h => h.IsTupleIter s.heap.objs.size a i ∧ h.IsTuple a vs.toArray) _ ⟨?_,⟨⟨_,Heap.get?_push_size _ rfl,rfl,rfl⟩,ht.push _⟩, ?_, ?_,fun b hb => by simpa using hb, ?_, ?_, ?_⟩ (fun b hb => by simp at hb; rcases hb with rfl | rfl; exact .inl (by simp); exact .inr rfl) (zQ s _ s.toks))
  · have W:=Walks.tuple (prog:=prog) (w:=w) hh s.heap.objs.size a hne vs.toArray
    have e : vs.toArray.size = xs.length:=by rw [List.size_toArray,q.length]
    rw [e] at W; exact W
  · intro b hb
    simp at hb
    rw [Heap.size_push]
    rcases hb with rfl | rfl
    · exact Nat.lt_succ_self _
    · exact Nat.lt_succ_of_lt (Heap.lt_size p)
  · intro b hb; simp at hb; subst hb; exact zS _
  · intro i h st b hb; simp at hb; subst hb; obtain ⟨⟨o,e,_⟩,_⟩:=st; exact ⟨o,e⟩
  · intro i h st; obtain ⟨⟨o,e,c,f⟩,_⟩:=st; exact ⟨o,e,⟨_,f⟩,_,c,by decide,by decide⟩
  · intro i x hx
    exact q.back (by simpa using hx)
 | @rng a b c hsm =>
  obtain ⟨r,t,u,x,rfl,p⟩:=r.rng_inv
  refine wpAny_pyIter_range p hsm (hQ _ [s.heap.objs.size] [s.heap.objs.size] (fun i v => i < ((wp a b c).map D.int).length ∧ ∃ t,v = .int (a + i * c) t)
    (fun i h => IsRangeIter h s.heap.objs.size (a + (i : Nat) * c) (((Builtin.Range.rangeSize a b c).toNat : Int) - (i : Nat)) c) _ ⟨?_, ?_, ?_, ?_,fun b hb => by simpa using hb, ?_, ?_, ?_⟩ (fun b hb => .inl hb) (zQ s _ s.toks))
  · have W:=(Walks.range (prog:=prog) (w:=w) hh s.heap.objs.size a c (Builtin.Range.rangeSize a b c).toNat).bound
    rw [List.length_map,zr]; exact W
  · have e : (((Builtin.Range.rangeSize a b c).toNat : Nat) : Int) = Builtin.Range.rangeSize a b c:=by
      have : 0 ≤ Builtin.Range.rangeSize a b c:=by
       unfold Builtin.Range.rangeSize
       split
       · split
         · have : 0 ≤ (b - a - 1) / c:=Int.ediv_nonneg (by omega) (by omega)
           omega
         · omega
       · split
         · have : 0 ≤ (a - b - 1) / (-c):=Int.ediv_nonneg (by omega) (by omega)
           omega
         · omega
      omega
    show IsRangeIter _ _ _ _ _
    rw [e]
    simpa using Heap.get?_push_size _ rfl
  · intro b hb; simp at hb; subst hb; rw [Heap.size_push]; exact Nat.lt_succ_self _
  · intro b hb; simp at hb; subst hb; exact zS _
  · intro i h st b hb; simp at hb; subst hb; exact ⟨_,st⟩
  · intro i h st; exact ⟨_,st,⟨_,rfl⟩,_,rfl,by decide,by decide⟩
  · rintro i x ⟨hi,t,rfl⟩
    refine ⟨.int (a + i * c), ?_,.int _ _⟩
    have hi2 : i < (Builtin.Range.rangeSize a b c).toNat:=by rw [← zr,← List.length_map]; exact hi
    simp [wp,hi2]
structure wD (prog : Program) (w : World) (names : zJ) (target : Expr) (d : D) (bs : List (Str × RV)) : Prop where
 run : ∀ (A : Around) (M : Addr → Prop) (env : Env) (s : Shared) (E : Value → Shared → Prop) (Q : Unit → Shared → Prop) (v : Value),A.handled = none → vH names env → yu names env s.heap → Rp prog w s.heap M v d →
  (∀ h' tk,yu names env h' → (∀ x r,(x,r) ∈ bs → ∃ u,yG env h' x u ∧ zm prog w s.heap M u r) → (∀ y u,(∀ r,(y,r) ∉ bs) → yG env s.heap y u → yG env h' y u) →
   (∀ a o,¬ zO names env a → s.heap.get? a = some o → h'.get? a = some o) → Q () { s with heap:=h',toks:=tk }) → wpAny (model prog w) A (assign target env v) Q E s
noncomputable def zY (names : zJ) (x : Str) : Bool:=names.lookup x == some .local || names.lookup x == some .cell
theorem yR {names : zJ} {x : Str} (h : zY names x = true) : names.lookup x = some .local ∨ names.lookup x = some .cell:=by
 unfold zY at h
 rcases Bool.or_eq_true_iff.mp h with h | h
 · exact .inl (by simpa using h)
 · exact .inr (by simpa using h)
theorem wD.name {names : zJ} {x : Str} {p : Pos} {d : D} (hx : zY names x = true) : wD prog w names (.Name x p) d [(x,.dat d)] where
 run:=by
  intro A M env s E Q v hh N F r hQ
  refine wpAny_assign_Name (yD N F (yR hx) fun h' tk F' hv hy hk => ?_)
  refine hQ h' tk F' (fun y q hm => ?_) (fun y u hn hu => hy y u (fun e => hn (.dat d) (by rw [e]; exact .head _)) hu) fun a o ha e => (hk a ha).trans e
  have:=List.mem_singleton.mp hm
  cases this
  exact ⟨v,hv,r⟩
theorem ki {h h' : Heap} {b : Addr} (x : Heap.ExtBut b h h') (n : h.get? b = none) : zR h h':=fun a o e => x a o (fun q => by rw [q,n] at e; cases e) e
theorem ZW {names : zJ} (N : vH names env) : ∀ (ps : List (Str × Pos)) (vs : List Value) (ds : List D),(ps.map (·.1)).Nodup → (∀ p ∈ ps,zY names p.1 = true) → zE prog w h M vs ds → ps.length = ds.length →
  ∀ (s : Shared) (E : Value → Shared → Prop) (Q : Unit → Shared → Prop),yu names env s.heap →
  (∀ h' tk,yu names env h' → (∀ x r,(x,r) ∈ ((ps.map (·.1)).zip (ds.map RV.dat)) → ∃ u,yG env h' x u ∧ zm prog w h M u r) → (∀ y u,y ∉ ps.map (·.1) → yG env s.heap y u → yG env h' y u) →
   (∀ a,¬ zO names env a → h'.get? a = s.heap.get? a) → Q () { s with heap:=h',toks:=tk }) →
  wpAny (model prog w) A (assignInOrder (ps.map fun p => assign (.Name p.1 p.2) env) vs) Q E s
 | [],vs,ds,_,_,r,hl,s,E,Q,F,hQ => by
  cases ds with
  | nil => cases r; exact assignInOrder_nil (hQ s.heap s.toks F (fun _ _ hm => by cases hm) (fun _ _ _ hu => hu) fun _ _ => rfl)
  | cons => cases hl
 | p :: ps,vs,ds,hn,hk,r,hl,s,E,Q,F,hQ => by
  cases r with
  | nil => cases hl
  | @cons v vs d ds rv rs =>
   simp only [List.map_cons] at hn ⊢
   rw [List.nodup_cons] at hn
   refine assignInOrder_cons (wpAny_assign_Name (yD N F (yR (hk _ (.head _))) fun h₁ tk F₁ hv hy hh => ?_))
   refine ZW N ps vs ds hn.2 (fun q hq => hk q (.tail _ hq)) rs (by simpa using hl) _ E Q F₁ fun h₂ tk₂ F₂ hb hy₂ hh₂ => ?_
   refine hQ h₂ tk₂ F₂ (fun x r hm => ?_) (fun y u hm hu => ?_) fun a ha => (hh₂ a ha).trans (hh a ha)
   · simp only [List.map_cons,List.zip_cons_cons] at hm
     rcases List.mem_cons.mp hm with e | hm
     · cases e
       exact ⟨v,hy₂ _ _ hn.1 hv,rv⟩
     · exact hb x r hm
   · simp only [List.map_cons,List.mem_cons,not_or] at hm
     exact hy₂ y u hm.2 (hy y u hm.1 hu)
theorem zw (ps : List (Str × Pos)) : assignEach (ps.map fun p => Expr.Name p.1 p.2) env = ps.map fun p => (false,assign (.Name p.1 p.2) env):=by
 induction ps with
 | nil => rfl
 | cons p ps ih => rw [List.map_cons,List.map_cons,← ih]; rfl
theorem wD.tuple {names : zJ} {elts : List Expr} (ps : List (Str × Pos)) {k : Nat} {pos : Pos} {ds : List D} (he : elts = ps.map fun p => Expr.Name p.1 p.2) (hn : (ps.map (·.1)).Nodup) (hk : (ps.all fun p => zY names p.1) = true) (hl : ps.length = ds.length) :
  wD prog w names (.Tuple elts k pos) (.tup ds) ((ps.map (·.1)).zip (ds.map RV.dat)) where
 run:=by
  intro A M env s E Q v hh N F r hQ
  obtain ⟨a,vs,rfl,⟨n,p⟩,_,rs⟩:=r.tup_inv
  subst he
  have hlen : (assignEach (ps.map fun p => Expr.Name p.1 p.2) env).length = vs.toArray.size:=by rw [zw]; simp [hl,rs.length]
  refine assign_Tuple_tuple hh ⟨_,p,rfl,n,rfl⟩ hlen ?_ fun h₁ x₁ => ?_
  · rw [zw,List.findIdx?_eq_none_iff]
    intro q hq
    obtain ⟨z,_,rfl⟩:=List.mem_map.mp hq
    rfl
  · have k₁ : zR s.heap h₁:=ki x₁ (zS _)
    rw [zw,List.map_map]
    refine ZW (h:=s.heap) (M:=M) N ps vs ds hn (fun q hq => List.all_eq_true.mp hk q hq) rs hl _ E Q (F.to fun a o _ e => k₁ a o e) fun h₂ tk F₂ hb hy hh₂ => ?_
    refine hQ h₂ tk F₂ hb (fun y u hm hu => hy y u (fun hy' => ?_) (hu.ext k₁)) fun a o ha e => (hh₂ a ha).trans (k₁ a o e)
    obtain ⟨q,hq,e⟩:=List.mem_map.mp hy'
    obtain ⟨i,hi,e2⟩:=List.getElem_of_mem hq
    have hi' : i < ds.length:=hl ▸ hi
    refine hm (.dat ds[i]) ?_
    have : ((ps.map (·.1)).zip (ds.map RV.dat))[i]? = some (y,.dat ds[i]):=by
     simp [List.getElem?_zip_eq_some,hi,hi',e2,e]
    exact List.mem_of_getElem? this
theorem vg {target : Expr} {I : Addr} {v : Value} {s : Shared} {E : Value → Shared → Prop} {Q : Unit → Shared → Prop} {o : Obj} (ho : s.heap.get? I = some o) (hn : jj o) (h : Q () s) :
  wpAny (model prog w) A (letOwnedTupleGo target (.ref I) v) Q E s:=by
 obtain ⟨_,n,hc,hn,_⟩:=hn
 have key : ∀ a,wpAny (model prog w) A (do
   let o ← load I
   match o.cls,o.data with
   | .type n,.fields vs =>
    if ["enumerate","zip","dict_itemiterator","dict_reverseitemiterator","odict_iterator","itertools.zip_longest","itertools.pairwise"].contains n && vs[0]? == some (rawInt a) then
     rule "for.unpacks-the-owned-tuple"
     updateField I 0 .none
   | _,_ => pure ()) Q E s:=by
  intro a
  refine wpAny_bind (wpAny_load ho ?_)
  rw [hc]
  cases o.data with
  | fields vs => simp only [hn,Bool.false_and,Bool.false_eq_true,if_false]; exact wpAny_pure h
  | _ => exact wpAny_pure h
 unfold letOwnedTupleGo
 cases v with
 | ref a => cases target <;> first | exact wpAny_pure h | exact key a
 | _ => cases target <;> exact wpAny_pure h
noncomputable def xO (prog : Program) (w : World) (A : Around) (h : Heap) (ifs : List Expr) (env : Env) (b : Bool) : Prop :=
 ∀ (s : Shared) (E : Value → Shared → Prop) (Q : Bool → Shared → Prop),zR h s.heap → (∀ s',Keeps s s' → Q b s') →
  wpAny (model prog w) A (forIn ifs true fun c r => if r = true then do let ok ← isTrue c env (eval c env); pure (ForInStep.yield ok) else pure (ForInStep.yield r)) Q E s
theorem xO.nil : xO prog w A h [] env true:=fun s E Q k hQ => wpAny_tests_nil (hQ s (zF s))
theorem xO.one {c : Expr} {b : Bool} (x : Tv prog w A h c env b) : xO prog w A h [c] env b:=fun s E Q k hQ => wpAny_tests_one (x s E Q k hQ)
theorem zj : ∀ (names : zJ) (n : Nat) (acc : List (Str × Addr)),cellsFrom n names acc = cellsFrom n names [] ++ acc
 | [],_,acc => rfl
 | (x,k) :: r,n,acc => by
  unfold cellsFrom
  split
  · rw [zj r (n + 1) ((x,n) :: acc),zj r (n + 1) [(x,n)],List.append_assoc]; rfl
  · exact zj r n acc
theorem yS : ∀ (names : zJ) (n : Nat) (acc : List (Str × Addr)) (x : Str),(x,NameKind.cell) ∈ names ∨ (acc.lookup x).isSome = true → ((cellsFrom n names acc).lookup x).isSome = true
 | [],_,_,_,h => h.elim (fun e => by cases e) id
 | (y,k) :: r,n,acc,x,h => by
  unfold cellsFrom
  split
  · refine yS r (n + 1) ((y,n) :: acc) x ?_
    rcases h with h | h
    · rcases List.mem_cons.mp h with e | h
      · cases e; exact .inr (by simp)
      · exact .inl h
    · refine .inr ?_
      rw [List.lookup_cons]
      cases x == y <;> simp [h]
  · rename_i hk
    refine yS r n acc x ?_
    rcases h with h | h
    · rcases List.mem_cons.mp h with e | h
      · cases e; exact absurd rfl hk
      · exact .inl h
    · exact .inr h
theorem yJ : ∀ (names : zJ) (n : Nat) (acc : List (Str × Addr)) (x : Str) (c : Addr),(x,c) ∈ cellsFrom n names acc → (x,NameKind.cell) ∈ names ∨ (x,c) ∈ acc
 | [],_,_,_,_,h => .inr h
 | (y,k) :: r,n,acc,x,c,h => by
  unfold cellsFrom at h
  split at h
  · rename_i hk
    rcases yJ r (n + 1) ((y,n) :: acc) x c h with q | q
    · exact .inl (.tail _ q)
    · rcases List.mem_cons.mp q with e | q
      · cases e; rw [beq_iff_eq.mp hk]; exact .inl (.head _)
      · exact .inr q
  · rcases yJ r n acc x c h with q | q
    · exact .inl (.tail _ q)
    · exact .inr q
theorem jT {M' : Model} {scope : Scope} {cl : List (Str × Addr)} {s : Shared} {E : Value → Shared → Prop} {Q : Env → Shared → Prop}
  (hQ : Q { scope,locals:=s.heap.objs.size,globals:=env.globals,cells:=cellsFrom (s.heap.objs.size + 1) scope.names cl,qual:=env.qual,func:=none,code:=env.code,frame:=env.frame,builtins:=env.builtins }
   { s with heap:=pushCells (s.heap.push { cls:=.type "dict",data:=.dict #[] }) scope.names }) :
  wpAny M' A (newFunctionEnv scope env.globals cl [] env.qual none .none (some env)) Q E s:=by
 simp only [newFunctionEnv,Option.isSome_some,if_true]
 refine wpAny_bind (wpAny_alloc ?_)
 refine wpAny_bind (wpAny_layCells _ (fun name kind cells => by cases hkc : kind == NameKind.cell <;> simp [hkc]) _ _ _ _ ?_)
 rw [show ({ s with heap:=s.heap.push { cls:=.type "dict",data:=.dict #[] } } : Shared).heap.objs.size = s.heap.objs.size + 1 from Heap.size_push ..]
 simp only [List.forIn_nil]
 exact wpAny_bind (wpAny_pure (wpAny_pure hQ))
noncomputable def yH (names : zJ) (scope : Scope) : Bool :=
 (scope.kind == .function) && (scope.names.all fun p => p.2 != .free || (names.lookup p.1 == some .cell || names.lookup p.1 == some .free)) && (scope.names.all fun p => p.2 != .local || scope.names.lookup p.1 == some .local) &&
  (scope.names.all fun p => p.2 != .cell || scope.names.lookup p.1 == some .cell) && (scope.names.all fun p => p.2 != .free || (p.1 != ("__classdict__" : Str)))
structure Ko (names : zJ) (scope : Scope) : Prop where
 fn : scope.kind = .function
 free : ∀ x,(x,NameKind.free) ∈ scope.names → (names.lookup x = some .cell ∨ names.lookup x = some .free) ∧ (x == ("__classdict__" : Str)) = false
 loc : ∀ p ∈ scope.names,p.2 = .local → scope.names.lookup p.1 = some .local
 cell : ∀ x,(x,NameKind.cell) ∈ scope.names → scope.names.lookup x = some .cell
theorem vo {names : zJ} {scope : Scope} (h : yH names scope = true) : Ko names scope:=by
 simp only [yH,Bool.and_eq_true] at h
 obtain ⟨⟨⟨⟨h1,h2⟩,h3⟩,h4⟩,h5⟩:=h
 refine ⟨by simpa using h1,fun x hx => ⟨?_, ?_⟩,fun p hp hk => ?_,fun x hx => ?_⟩
 · have:=List.all_eq_true.mp h2 _ hx
   simpa using this
 · have:=List.all_eq_true.mp h5 _ hx
   simpa using this
 · have:=List.all_eq_true.mp h3 _ hp
   rw [hk] at this
   simpa using this
 · have:=List.all_eq_true.mp h4 _ hx
   simpa using this
theorem qP {scope : Scope} : ∀ (ns : zJ) (acc : List (Str × Addr)),(∀ p ∈ ns,p.2 = .free → ∃ c,env.cells.lookup p.1 = some c) → (∀ x c,acc.lookup x = some c → env.cells.lookup x = some c) →
  ∃ cl,(forIn ns acc (fun (p : Str × NameKind) cs => (if (p.2 == NameKind.free) = true then (do let c ← cellOf env p.1; pure (ForInStep.yield ((p.1,c) :: cs))) else pure (ForInStep.yield cs) : Sem _))) = (pure cl : Sem (List (Str × Addr))) ∧
    (∀ x c,cl.lookup x = some c → env.cells.lookup x = some c) ∧ (∀ x,((x,NameKind.free) ∈ ns ∨ (acc.lookup x).isSome = true) → (cl.lookup x).isSome = true)
 | [],acc,_,ha => ⟨acc,rfl,ha,fun x h => h.elim (fun e => by cases e) id⟩
 | (y,k) :: r,acc,hf,ha => by
  rw [List.forIn_cons]
  by_cases hk : k = .free
  · subst hk
    obtain ⟨c,hc⟩:=hf (y,.free) (.head _) rfl
    have e1 : cellOf env y = pure c:=by unfold cellOf; rw [hc]
    obtain ⟨cl,e,h1,h2⟩:=qP (scope:=scope) r ((y,c) :: acc) (fun p hp => hf p (.tail _ hp)) (fun x c' hx => by
      rw [List.lookup_cons] at hx
      cases hb : x == y with
      | true => rw [hb] at hx; cases hx; rw [beq_iff_eq.mp hb]; exact hc
      | false => rw [hb] at hx; exact ha x c' hx)
    refine ⟨cl, ?_,h1,fun x hx => h2 x ?_⟩
    · simp only [beq_self_eq_true,if_true,e1,pure_bind]
      exact e
    · rcases hx with hx | hx
      · rcases List.mem_cons.mp hx with q | q
        · cases q; exact .inr (by simp)
        · exact .inl q
      · refine .inr ?_
        rw [List.lookup_cons]
        cases x == y <;> simp [hx]
  · have hb : (k == NameKind.free) = false:=by simpa using hk
    obtain ⟨cl,e,h1,h2⟩:=qP (scope:=scope) r acc (fun p hp => hf p (.tail _ hp)) ha
    refine ⟨cl, ?_,h1,fun x hx => h2 x ?_⟩
    · simp only [hb,Bool.false_eq_true,if_false,pure_bind]
      exact e
    · rcases hx with hx | hx
      · rcases List.mem_cons.mp hx with q | q
        · cases q; exact absurd rfl hk
        · exact .inl q
      · exact .inr hx
theorem xM {names : zJ} {scope : Scope} (N : vH names env) (hc : yH names scope = true) :
  ∃ cl,closureFor scope env = pure cl ∧ (∀ x c,cl.lookup x = some c → env.cells.lookup x = some c) ∧ (∀ x,(x,NameKind.free) ∈ scope.names → (cl.lookup x).isSome = true):=by
 obtain ⟨cl,e,h1,h2⟩:=qP (env:=env) (scope:=scope) scope.names [] (fun p hp hf => by
  obtain ⟨x,k⟩:=p
  cases hf
  exact N.cl x ((vo hc).free x hp).1) (fun x c hx => by cases hx)
 exact ⟨cl,by unfold closureFor; simpa using e,h1,fun x hx => h2 x (.inl hx)⟩
theorem yx {ns : zJ} {x : Str} {k : NameKind} (hx : ns.lookup x = some k) :
  (ns.map fun (n,k) => if (k == NameKind.free && env.scope.kind == .function && env.kindOf n == some .cell) = true then (n,NameKind.cell) else (n,k)).lookup x =
   some (if (k == NameKind.free && env.scope.kind == .function && env.kindOf x == some .cell) = true then .cell else k):=by
 induction ns with
 | nil => cases hx
 | cons p r ih =>
  obtain ⟨n,k'⟩:=p
  rw [List.lookup_cons] at hx
  cases hb : x == n with
  | true =>
   rw [hb] at hx; cases hx
   obtain rfl:=beq_iff_eq.mp hb
   simp only [List.map_cons]
   split <;> simp
  | false =>
   rw [hb] at hx
   simp only [List.map_cons]
   split <;> (rw [List.lookup_cons,hb]; exact ih hx)
theorem W9 {names : zJ} {scope : Scope} (N : vH names env) (hc : yH names scope = true) {cl : List (Str × Addr)} (h1 : ∀ x c,cl.lookup x = some c → env.cells.lookup x = some c) (h2 : ∀ x,(x,NameKind.free) ∈ scope.names → (cl.lookup x).isSome = true)
  (C : Addr) (hlt : ∀ x c,env.cells.lookup x = some c → c < C) : vH scope.names (compEnvC scope (cellsFrom (C + 1) scope.names cl) C env) where
 fn:=by
  show scope.kind = .function
  exact (vo hc).fn
 glob:=N.glob
 bl:=N.bl
 gi:=fun x hx => by
  show (scope.names.map _).lookup x = _
  rw [yx hx]; rfl
 lo:=fun x hx => by
  show (scope.names.map _).lookup x = _
  rw [yx hx]; rfl
 ce:=fun x hx => by
  show (scope.names.map _).lookup x = _
  rw [yx hx]; rfl
 fr:=fun x hx => by
  show (scope.names.map _).lookup x = _ ∨ (scope.names.map _).lookup x = _
  rw [yx hx]
  split
  · exact .inr rfl
  · exact .inl rfl
 cl:=fun x hx => by
  show ∃ c,(cellsFrom (C + 1) scope.names cl).lookup x = some c
  refine Option.isSome_iff_exists.mp (yS _ _ _ _ ?_)
  rcases hx with hx | hx
  · exact .inl (mem_of_lookup hx)
  · exact .inr (h2 x (mem_of_lookup hx))
 apart:=fun x y c hx hy => by
  have hx : (cellsFrom (C + 1) scope.names cl).lookup x = some c:=hx
  have hy : (cellsFrom (C + 1) scope.names cl).lookup y = some c:=hy
  rw [zj] at hx hy
  have own:=cellsFrom_ok scope.names { objs:=Array.replicate (C + 1) { cls:=.none } } (C + 1) [] ⟨fun _ _ hm => (nomatch hm),List.Pairwise.nil⟩ (by simp)
  have hs : ({ objs:=Array.replicate (C + 1) { cls:=.none } } : Heap).objs.size = C + 1:=by simp
  rw [hs] at own
  rw [List.lookup_append] at hx hy
  cases ex : (cellsFrom (C + 1) scope.names []).lookup x with
  | some cx =>
    rw [ex] at hx
    have hx : cx = c:=by simpa using hx
    subst hx
    have mx:=own.empty x cx (mem_of_lookup ex)
    cases ey : (cellsFrom (C + 1) scope.names []).lookup y with
    | some cy =>
     rw [ey] at hy
     have hy : cy = cx:=by simpa using hy
     subst hy
     exact name_of_addr own.apart (mem_of_lookup ex) (mem_of_lookup ey)
    | none =>
     rw [ey] at hy
     have hy : cl.lookup y = some cx:=by simpa using hy
     have h3:=hlt y cx (h1 y cx hy)
     have h4 : C + 1 ≤ cx:=mx.2
     exact absurd h3 (Nat.not_lt.mpr (Nat.le_trans (Nat.le_succ _) h4))
  | none =>
    rw [ex] at hx
    have hx : cl.lookup x = some c:=by simpa using hx
    have hcx:=h1 x c hx
    cases ey : (cellsFrom (C + 1) scope.names []).lookup y with
    | some cy =>
     rw [ey] at hy
     have hy : cy = c:=by simpa using hy
     subst hy
     have my:=own.empty y cy (mem_of_lookup ey)
     have h3:=hlt x cy hcx
     have h4 : C + 1 ≤ cy:=my.2
     exact absurd h3 (Nat.not_lt.mpr (Nat.le_trans (Nat.le_succ _) h4))
    | none =>
     rw [ey] at hy
     have hy : cl.lookup y = some c:=by simpa using hy
     exact N.apart x y c hcx (h1 y c hy)
end
noncomputable def xV (names : zJ) (ρ : List (Str × RV)) : List (Str × RV):=ρ.filter fun p => names.lookup p.1 == some .free
section
variable {prog : Program} {w : World} {A : Around} {h : Heap} {env : Env} {M : Addr → Prop}
theorem vc {names : zJ} {ρ : List (Str × RV)} {x : Str} {r : RV} (hm : (x,r) ∈ ρ) (hx : (names.lookup x == some .free) = true) : (x,r) ∈ xV names ρ :=
 List.mem_filter.mpr ⟨hm,hx⟩
theorem kR {α : Type} (p : α → Bool) (f : α → D) (ys : List α) (i : Nat) (y : α) (e : ys[i]? = some y) :
  ((ys.take (i + 1)).filter p).map f = if p y then ((ys.take i).filter p).map f ++ [f y] else ((ys.take i).filter p).map f:=by
 rw [List.take_add_one,e,List.filter_append]
 cases hp : p y <;> simp [hp]
theorem zn {h : Heap} {a : Addr} {d : D} {v} (c : zc prog w h M a d) (q : h.IsCell a v) : False:=by
 obtain ⟨o,q3,q4⟩:=q
 cases c with
 | list p _ => obtain ⟨n,p⟩:=p; rw [p] at q3; cases q3; cases q4
 | dct p _ _ _ => obtain ⟨o2,_,_,p,_,p2,_⟩:=p; rw [p] at q3; cases q3; rw [p2] at q4; cases q4
 | tab p _ => rw [p] at q3; cases q3; cases q4
 | itr p => rw [p] at q3; cases q3; cases q4
theorem xX {h : Heap} {a : Addr} {d : D} (c : zc prog w h M a d) : ∃ o,h.get? a = some o:=by
 cases c with
 | list p _ => obtain ⟨n,p⟩:=p; exact ⟨_,p⟩
 | dct p _ _ _ => obtain ⟨o,_,_,p,_⟩:=p; exact ⟨o,p⟩
 | tab p _ => exact ⟨_,p⟩
 | itr p => exact ⟨_,p⟩
theorem Rp.ref_not {h : Heap} {a : Addr} {d : D} (r : Rp prog w h M (.ref a) d) : ¬ M a:=by cases r <;> assumption
noncomputable def Yb (wr : List Addr) (s s' : Shared) : Prop:=∃ h' tk,s' = { s with heap:=h',toks:=tk } ∧ ∀ a o,a ∉ wr → s.heap.get? a = some o → h'.get? a = some o
theorem yG.to {env : Env} {h h' : Heap} {x : Str} {v : Value} (k : ∀ a o,(a = env.locals ∨ ∃ y,env.cells.lookup y = some a) → h.get? a = some o → h'.get? a = some o) : yG env h x v → yG env h' x v:=by
 rintro (⟨a,m,n,e⟩ | ⟨a,c,e,o,q1,q2⟩)
 · exact .inl ⟨a,m,n.at' fun o e => k _ o (.inl rfl) e,e⟩
 · exact .inr ⟨a,c,e,o,k _ o (.inr ⟨x,e⟩) q1,q2⟩
noncomputable def Zu (prog : Program) (w : World) (env : Env) (h : Heap) (M : Addr → Prop) (ρx : List (Str × RV)) : Prop:=∀ x r,(x,r) ∈ ρx → ∃ v,yG env h x v ∧ zm prog w h M v r
noncomputable def wg (e : Expr) (n : Nat) (target iter : Expr) (acc : Value) (env : Env) (tail : Sem Unit) : Prop :=
 ∀ it,compTurn e n it acc env = (do
  standAt iter.pos
  match ← pyNext it with
  | none => pure (.done .next)
  | some v =>
   letOwnedTupleGo target it v
   assign target env v
   tail
   again (.compLoop e n it acc env))
structure Jz (prog : Program) (w : World) (names : zJ) (env' : Env) (h : Heap) (M' : Addr → Prop) (T : Addr → Prop) (St : Nat → Heap → Prop) (D : Addr) (mu : List (Addr × Mine.D)) (ρx : List (Str × RV)) (i : Nat) (outs : List Mine.D) (h' : Heap) : Prop where
 ext : ∀ a o,¬ T a → h.get? a = some o → h'.get? a = some o
 st : St i h'
 fr : yu names env' h'
 acc : ∃ ys : List Value,h'.PlainList D ys.toArray ∧ zE prog w h' M' ys outs
 mem : ∀ a d,(a,d) ∈ mu → zc prog w h' M' a d
 vars : Zu prog w env' h' M' ρx
noncomputable def vU (prog : Program) (w : World) (names : zJ) (env' : Env) (M' : Addr → Prop) (T : Addr → Prop) (D : Addr) (mu : List (Addr × Mine.D)) (ρx : List (Str × RV)) (outs : List Mine.D) (s s' : Shared) : Prop :=
 (∃ h' tk,s' = { s with heap:=h',toks:=tk }) ∧ (∀ a o,¬ T a → s.heap.get? a = some o → s'.heap.get? a = some o) ∧ yu names env' s'.heap ∧ (∃ ys : List Value,s'.heap.PlainList D ys.toArray ∧ zE prog w s'.heap M' ys outs) ∧ (∀ a d,(a,d) ∈ mu → zc prog w s'.heap M' a d) ∧ Zu prog w env' s'.heap M' ρx
theorem ko {α σ : Type} {B : Heap} {scope : Scope} {ρ : List (Str × RV)} {μ : σ → List (Addr × D)} {elt target iter : Expr} {gens : List Comprehension} {pos : Pos} {n : Nat} {tail : Sem Unit} {env' : Env} {ys : List α} {g : α → D} {bs : α → List (Str × RV)} {F : Nat → α → σ → List D}
   {I D : Addr} {W : List Addr} {fp wr : List Addr} {P : Nat → Value → Prop} {St : Nat → Heap → Prop} {s₂ s₄ : Shared} {M' T : Addr → Prop} {R : Result → Shared → Prop} {Pc : Nat → σ → List Mine.D → Prop} {c₀ : σ} {outs₀ : List Mine.D} {ρx : List (Str × RV)}
   (hct : wg (.ListComp elt gens scope pos) n target iter (.ref D) env' tail)
   (N : vH scope.names env') (hh : A.handled = none) (src : Src prog w A h M (ys.map g) I fp wr P St s₂) (hM' : ∀ a,M' a ↔ (M a ∨ T a ∨ a ∈ wr)) (hT : ∀ a,T a ↔ (a = D ∨ a ∈ W ∨ zO scope.names env' a))
   (base : zR B h) (hold : ∀ a,M a → ∃ o,h.get? a = some o) (hTM : ∀ a o,T a → h.get? a = some o → M a) (hTB : ∀ a,T a → B.get? a = none) (hfp : ∀ a,T a → a ∉ fp) (hDF : ¬ zO scope.names env' D) (hDW : D ∉ W)
   (hWF : ∀ a ∈ W,¬ zO scope.names env' a) (hWμ : ∀ c,∀ a ∈ W,∃ d,(a,d) ∈ μ c) (hpl : ∀ c a d,(a,d) ∈ μ c → ¬ zO scope.names env' a ∧ ∃ o,h.get? a = some o)
   (hcl : ∀ x c,env'.cells.lookup x = some c → (scope.names.lookup x = some .cell ∨ ∃ v,h.IsCell c v ∧ ¬ T c))
   (hcap : ∀ x r,(x,r) ∈ xV scope.names ρ → ∃ v,zm prog w h M v r ∧ ∃ c,env'.cells.lookup x = some c ∧ h.IsCell c (some v) ∧ ¬ T c ∧ (x == ("__classdict__" : Str)) = false)
   (hρx : ∀ y ∈ ys,∀ x r,(x,r) ∈ ρx → ∀ r',(x,r') ∉ bs y) (hasg : ∀ y ∈ ys,wD prog w scope.names target (g y) (bs y)) (hapart : ∀ y ∈ ys,∀ x r,(x,r) ∈ bs y → scope.names.lookup x ≠ some .free)
   (turn : ∀ i y c outs s E,ys[i]? = some y → Pc i c outs → (∀ a o,¬ T a → h.get? a = some o → s.heap.get? a = some o) → En prog w B scope.names env' s.heap M' (bs y ++ (ρx ++ xV scope.names ρ)) (μ c) → yu scope.names env' s.heap → (∃ vs : List Value,s.heap.PlainList D vs.toArray ∧ zE prog w s.heap M' vs outs) →
     wpAny (model prog w) A tail (fun _ s' => ∃ c' outs',Pc (i + 1) c' outs' ∧ vU prog w scope.names env' M' T D (μ c') ρx outs' s s') E s)
   (hp : Pc 0 c₀ outs₀) (inv : Jz prog w scope.names env' h M' T St D (μ c₀) ρx 0 outs₀ s₄.heap)
   (done : ∀ c outs s',Pc ys.length c outs → vU prog w scope.names env' M' T D (μ c) ρx outs { s₄ with heap:=h } s' → R (.ok .next) s') :
   codeAny (model prog w) A (.compLoop (.ListComp elt gens scope pos) n (.ref I) (.ref D) env') R s₄:=by
 have hTF : ∀ a,zO scope.names env' a → T a:=fun a x => (hT a).mpr (.inr (.inr x))
 have hTD : T D:=(hT D).mpr (.inl rfl)
 have hTW : ∀ a ∈ W,T a:=fun a x => (hT a).mpr (.inr (.inl x))
 have hMn : ∀ a o,M' a → h.get? a = some o → M a:=by
   intro a o m e
   rcases (hM' a).mp m with m | m | m
   · exact m
   · exact hTM a o m e
   · rw [src.fresh a m] at e; cases e
 have hlen : (ys.map g).length = ys.length:=List.length_map ..
 refine codeAny_loop rfl (fun k s' => ∃ i h' tk c outs,s' = { s₄ with heap:=h',toks:=tk } ∧ i ≤ ys.length ∧ k = ys.length + 1 - i ∧ Pc i c outs ∧ Jz prog w scope.names env' h M' T St D (μ c) ρx i outs h') ?_ (ys.length + 1)
   ⟨0,s₄.heap,s₄.toks,c₀,outs₀,rfl,Nat.zero_le _,rfl,hp,inv⟩
 rintro k s' ⟨i,h',tk,c,outs,rfl,hi,rfl,hP,J⟩
 show wpAny _ A ((compTurn (.ListComp elt gens scope pos) n (.ref I) (.ref D) env').onRaise (fun x => do noteFrame x env'; theTreesLotGoes x)) _ _ _
 refine wpAny_noted ?_
 rw [hct]
 refine wpAny_bind (wpAny_standAt (wpAny_bind ?_))
 obtain ⟨out,hacc,hout⟩:=J.acc
 have hmM : ∀ a d,(a,d) ∈ μ c → ¬ zO scope.names env' a ∧ a ∉ wr:=fun a d m => ⟨(hpl c a d m).1,fun z => by obtain ⟨o,e⟩:=(hpl c a d m).2; rw [src.fresh a z] at e; cases e⟩
 have hDw : D ∉ wr:=fun x => hfp D hTD (src.W.sub _ x)
 have hfrw : ∀ a,(a = env'.locals ∨ ∃ y,env'.cells.lookup y = some a) → a ∉ wr:=fun a q z => by
   rcases q with q | ⟨y,q⟩
   · exact hfp a (hTF a (.inl q)) (src.W.sub _ z)
   · rcases hcl y a q with hx | ⟨v,⟨o,q1,q2⟩,t⟩
     · exact hfp a (hTF a (.inr ⟨y,hx,q⟩)) (src.W.sub _ z)
     · rw [src.fresh a z] at q1; cases q1
 by_cases hlt : i < ys.length
 · refine src.W.item i _ _ _ (by rw [hlen]; exact hlt) J.st fun v h₁ tk₁ hPv hst₁ hk₁ => ?_
   obtain ⟨d,hd,rd⟩:=src.item i v hPv
   have hy : ys[i]? = some ys[i]:=by simp [hlt]
   have hmy : ys[i] ∈ ys:=List.getElem_mem hlt
   have hd' : d = g ys[i]:=by rw [List.getElem?_map,hy] at hd; simpa using hd.symm
   subst hd'
   have k₁ : ∀ a o,¬ T a → h.get? a = some o → h₁.get? a = some o:=fun a o t e => hk₁ a o (fun m => by rw [src.fresh a m] at e; cases e) (J.ext a o t e)
   have F₁ : yu scope.names env' h₁:=J.fr.to fun a o x e => hk₁ a o (fun m => hfp a (hTF a x) (src.W.sub _ m)) e
   obtain ⟨oI,hoI,hnI⟩:=src.own _ _ hst₁
   have to1 : ∀ a o,¬ M a → h.get? a = some o → h₁.get? a = some o ∧ ¬ M' a:=fun a o m e => ⟨k₁ a o (fun t => m (hTM a o t e)) e,fun z => m (hMn a o z e)⟩
   refine wpAny_bind (vg (o:=oI) hoI hnI ?_)
   refine wpAny_bind ((hasg _ hmy).run A M' env' _ _ _ v hh N F₁ (rd.to to1) fun h₂ tk₂ F₂ hb hy₂ hk₂ => ?_)
   have k₂ : ∀ a o,¬ T a → h.get? a = some o → h₂.get? a = some o:=fun a o t e => hk₂ a o (fun x => t (hTF a x)) (k₁ a o t e)
   have hst₂ : St (i + 1) h₂:=src.W.frame _ _ _ hst₁ fun b hb o e => hk₂ b o (fun x => hfp b (hTF b x) hb) e
   have m2 : ∀ a o,¬ zO scope.names env' a → a ∉ wr → h'.get? a = some o → h₂.get? a = some o:=fun a o n1 n2 e => hk₂ a o n1 (hk₁ a o n2 e)
   have hacc₂ : h₂.PlainList D out.toArray:=hacc.at fun o e => m2 D o hDF hDw e
   have to2 : ∀ a o,¬ M' a → h'.get? a = some o → h₂.get? a = some o ∧ ¬ M' a:=fun a o m e => ⟨m2 a o (fun x => m ((hM' a).mpr (.inr (.inl (hTF a x))))) (fun x => m ((hM' a).mpr (.inr (.inr x)))) e,m⟩
   have hout₂ : zE prog w h₂ M' out outs:=hout.to to2
   have hmem₂ : ∀ a d,(a,d) ∈ μ c → zc prog w h₂ M' a d:=fun a d m => (J.mem a d m).to (fun o e => m2 a o (hmM a d m).1 (hmM a d m).2 e) to2
   have hvars₂ : Zu prog w env' h₂ M' ρx:=fun x r m => by
     obtain ⟨v,hv,hr⟩:=J.vars x r m
     exact ⟨v,hy₂ x v (fun r' => hρx _ hmy x r m r') (hv.to fun a o q e => hk₁ a o (hfrw a q) e),hr.to to2⟩
   have hE : En prog w B scope.names env' h₂ M' (bs ys[i] ++ (ρx ++ xV scope.names ρ)) (μ c):=by
     refine ⟨fun a o e => k₂ a o (fun t => by rw [hTB a t] at e; cases e) (base a o e),N,fun a m => ?_,fun x c' e => ?_,fun x r hm => ?_,hmem₂⟩
     · have hTlive : ∀ a,T a → ∃ o,h₂.get? a = some o:=fun a m => by
         rcases (hT a).mp m with rfl | m | m
         · obtain ⟨n,e⟩:=hacc₂; exact ⟨_,e⟩
         · obtain ⟨d,hd⟩:=hWμ c a m; exact xX (hmem₂ a d hd)
         · exact F₂.has m
       rcases (hM' a).mp m with m | m | m
       · by_cases t : T a
         · exact hTlive a t
         · obtain ⟨o,e⟩:=hold a m; exact ⟨o,k₂ a o t e⟩
       · exact hTlive a m
       · exact src.live _ _ hst₂ a m
     · rcases hcl x c' e with hx | ⟨v,⟨o,q1,q2⟩,t⟩
       · exact F₂.cell x c' hx e
       · exact ⟨v,o,k₂ _ _ t q1,q2⟩
     · rcases List.mem_append.mp hm with hm | hm
       · obtain ⟨u,hu,hr⟩:=hb x r hm
         refine ⟨u,hu,hr.to fun a o m e => ⟨hk₂ a o (fun x => m ((hM' a).mpr (.inr (.inl (hTF a x))))) e,m⟩⟩
       rcases List.mem_append.mp hm with hm | hm
       · exact hvars₂ x r hm
       · obtain ⟨v,hr,c',hc,⟨o,q1,q2⟩,t,hx⟩:=hcap x r hm
         have hfree : scope.names.lookup x = some .free:=by simpa using (List.mem_filter.mp hm).2
         refine ⟨v,.inr ⟨?_,c',hc,o,k₂ _ _ t q1,q2⟩,hr.to fun a o m e => ⟨k₂ a o (fun t => m (hTM a o t e)) e,fun z => m (hMn a o z e)⟩⟩
         rcases N.fr x hfree with e | e
         · exact .inr ⟨e,hx⟩
         · exact .inl e
   refine wpAny_bind (wpAny_mono (turn i ys[i] c outs { s₄ with heap:=h₂,toks:=tk₂ } _ hy hP k₂ hE F₂ ⟨out,hacc₂,hout₂⟩) (fun _ s₃ q => ?_) fun _ _ x => x)
   obtain ⟨c',outs',hP',⟨h₃,tk₃,rfl⟩,g1,g2,g3,g4,g5⟩:=q
   dsimp only at g1 g2 g3 g4 g5
   refine wpAny_pure (a:=Fin.again _) ⟨rfl,ys.length + 1 - (i + 1),by omega,i + 1,h₃,tk₃,c',outs',rfl,hlt,rfl,hP',fun a o t e => g1 a o t (k₂ a o t e),src.W.frame _ _ _ hst₂ fun b hb o e => g1 b o (fun t => hfp b t hb) e,g2,g3,g4,g5⟩
 · have hin : i = ys.length:=by omega
   subst hin
   refine src.W.done _ _ _ (by rw [hlen]; exact J.st) fun h₁ tk₁ hk₁ => ?_
   have to2 : ∀ a o,¬ M' a → h'.get? a = some o → h₁.get? a = some o ∧ ¬ M' a:=fun a o m e => ⟨hk₁ a o (fun x => m ((hM' a).mpr (.inr (.inr x)))) e,m⟩
   refine wpAny_pure (a:=Fin.done .next) (done c outs _ hP ⟨⟨h₁,tk₁,rfl⟩,fun a o t e => hk₁ a o (fun m => by rw [src.fresh a m] at e; cases e) (J.ext a o t e),J.fr.to fun a o x e => hk₁ a o (fun m => hfp a (hTF a x) (src.W.sub _ m)) e,⟨out,hacc.at fun o e => hk₁ D o hDw e,hout.to to2⟩,fun a d m => (J.mem a d m).to (fun o e => hk₁ a o (hmM a d m).2 e) to2,fun x r m => by obtain ⟨v,hv,hr⟩:=J.vars x r m; exact ⟨v,hv.to fun a o q e => hk₁ a o (hfrw a q) e,hr.to to2⟩⟩)
end
section
variable {prog : Program} {w : World} {A : Around} {B : Heap} {h : Heap} {env : Env} {M : Addr → Prop}
theorem leN {a b : Nat} (h : a ≤ b) : a ≤ b:=h
theorem ltN {a b : Nat} (h : a < b) : a < b:=h
theorem qw (names : zJ) (h : Heap) : CellsOk (pushCells h names) h.objs.size (cellsFrom h.objs.size names []) :=
 cellsFrom_ok names h h.objs.size [] ⟨fun _ _ hm => (nomatch hm),List.Pairwise.nil⟩ (Nat.le_refl _)
theorem qU {σ : Type} {names : zJ} {env' : Env} {M' T : Addr → Prop} {D : Addr} {W : List Addr} {μ : σ → List (Addr × Mine.D)} {outs : List Mine.D} {d : Mine.D} {s : Shared} {E : Value → Shared → Prop} {elt : Expr} {Z : σ → Prop} {ρx : List (Str × RV)}
   (hF : yu names env' s.heap) (hacc : ∃ vs : List Value,s.heap.PlainList D vs.toArray ∧ zE prog w s.heap M' vs outs) (hT : ∀ a,T a ↔ (a = D ∨ a ∈ W ∨ zO names env' a)) (hTM : ∀ a,T a → M' a) (hDF : ¬ zO names env' D) (hDW : D ∉ W) (hWF : ∀ a ∈ W,¬ zO names env' a) (hpl : ∀ c a d,(a,d) ∈ μ c → a ≠ D)
   (hz : outs.length ≤ sizeLine) (hvars : Zu prog w env' s.heap M' ρx) (hcells : ∀ x c,env'.cells.lookup x = some c → zO names env' c ∨ ¬ T c)
   (he : ∀ Q : Value → Shared → Prop,(∀ v s' c',Z c' → Yb W s s' → (∀ a x,(a,x) ∈ μ c' → zc prog w s'.heap M' a x) → Rp prog w s'.heap M' v d → Q v s') → wpAny (model prog w) A (eval elt env') Q E s) :
   wpAny (model prog w) A (do let _ ← call (.builtin "list.append") [.ref D,← eval elt env']) (fun _ s' => ∃ c',Z c' ∧ vU prog w names env' M' T D (μ c') ρx (outs ++ [d]) s s') E s:=by
 obtain ⟨out,hacc,hout⟩:=hacc
 refine wpAny_bind (he _ fun v s₁ c' hz' ef hmem rv => ?_)
 obtain ⟨h₁,tk₁,rfl,kk⟩:=ef
 dsimp only at hmem rv
 have hTD : T D:=(hT D).mpr (.inl rfl)
 have hacc₁ : h₁.PlainList D out.toArray:=hacc.at fun o e => kk D o hDW e
 refine wpAny_bind (wpAny_list_append_plain hacc₁ (fun h₂ hl₂ hs₂ => ?_) (by rw [List.size_toArray,hout.length]; exact hz))
 have k12 : ∀ a o,a ≠ D → h₁.get? a = some o → h₂.get? a = some o:=fun a o n e => hs₂.extBut a o n e
 have nW : ∀ a,¬ M' a → a ∉ W:=fun a m x => m (hTM a ((hT a).mpr (.inr (.inl x))))
 have nD : ∀ a,¬ M' a → a ≠ D:=fun a m x => m (x ▸ hTM D hTD)
 refine wpAny_pure ⟨c',hz',⟨h₂,tk₁,rfl⟩,fun a o t e => ?_, ?_,⟨out ++ [v],by simpa using hl₂, ?_⟩,fun a x hm => ?_, ?_⟩
 · exact k12 a o (fun z => t (z ▸ hTD)) (kk a o (fun z => t ((hT a).mpr (.inr (.inl z)))) e)
 · exact hF.to fun a o x e => k12 a o (fun z => hDF (z ▸ x)) (kk a o (fun z => hWF a z x) e)
 · refine zE.append (hout.to fun a o m e => ⟨k12 a o (nD a m) (kk a o (nW a m) e),m⟩) (.cons (rv.to fun a o m e => ⟨k12 a o (nD a m) e,m⟩) .nil)
 · exact (hmem a x hm).to (fun o e => k12 a o (hpl _ a x hm) e) fun a o m e => ⟨k12 a o (nD a m) e,m⟩
 · intro x r m
   obtain ⟨u,hu,hr⟩:=hvars x r m
   have nF : ∀ a,(a = env'.locals ∨ ∃ y,env'.cells.lookup y = some a) → a ≠ D ∧ a ∉ W:=by
    rintro a (q | ⟨y,q⟩)
    · exact ⟨fun z => hDF (.inl (z ▸ q)),fun z => hWF a z (.inl q)⟩
    · rcases hcells y a q with t | t
      · exact ⟨fun z => hDF (z ▸ t),fun z => hWF a z t⟩
      · exact ⟨fun z => t (z ▸ hTD),fun z => t ((hT a).mpr (.inr (.inl z)))⟩
   refine ⟨u,hu.to fun a o q e => k12 a o (nF a q).1 (kk a o (nF a q).2 e),hr.to fun a o m e => ⟨k12 a o (nD a m) (kk a o (nW a m) e),m⟩⟩
theorem wq {α σ : Type} {names : zJ} {scope : Scope} {ρ : List (Str × RV)} {μ : σ → List (Addr × D)} {elt target iter : Expr} {ifs : List Expr} {gens : List Comprehension} {pos pos' : Pos} {dsrc : D} {use : Option (Value → Sem Unit)} {W : List Addr} {Z : Shared → σ → Prop} {Pc : Nat → σ → List D → Prop}
  (N₀ : vH names env) (R : Rm A 0) (hc : yH names scope = true) (ys : List α) (g : α → D) (hs : zb dsrc (ys.map g)) (bs : α → List (Str × RV)) (tail : Value → Env → Sem Unit)
  (hct : ∀ acc env',wg (.ListComp elt (⟨target,iter,ifs,0⟩ :: gens) scope pos) 0 target iter acc env' (tail acc env'))
  (hasg : ∀ y ∈ ys,wD prog w scope.names target (g y) (bs y)) (hapart : ∀ y ∈ ys,∀ x r,(x,r) ∈ bs y → scope.names.lookup x ≠ some .free) (hfs : ∀ x,foldedSetIterable iter env x = pure x)
  (hW : ∀ a ∈ W,M a ∧ B.get? a = none) (hWμ : ∀ c,∀ a ∈ W,∃ d,(a,d) ∈ μ c) (hμ : ∀ c c' a d,(a,d) ∈ μ c → ∃ d',(a,d') ∈ μ c')
  {s : Shared} {E : Value → Shared → Prop} {Q : Value → Shared → Prop}
  (hsrc : wpAny (model prog w) A (eval iter env) (fun xv s₁ => ∃ c₀,Z s₁ c₀ ∧ Pc 0 c₀ [] ∧ En prog w B names env s₁.heap M ρ (μ c₀) ∧ Rd prog w s₁.heap M xv dsrc ∧ ∀ a ∈ W,xv ≠ .ref a) E s)
  (turn : ∀ s₁ c₀,Z s₁ c₀ → ∀ i y c outs s env' M' T D E,(env'.code = env.code ∧ env'.qual = env.qual) → (∀ a,T a → a ∉ W → s₁.heap.get? a = none) → ys[i]? = some y → Pc i c outs → (∀ a,M a → M' a) → (∀ a o,M' a → s₁.heap.get? a = some o → M a) → (∀ a o,¬ T a → s₁.heap.get? a = some o → s.heap.get? a = some o) → (∀ a,T a ↔ (a = D ∨ a ∈ W ∨ zO scope.names env' a)) → (∀ a,T a → M' a) → (∀ a,T a → B.get? a = none) → ¬ zO scope.names env' D → D ∉ W → (∀ a ∈ W,¬ zO scope.names env' a) → (∀ c a d,(a,d) ∈ μ c → a ≠ D ∧ ¬ zO scope.names env' a) →
    (∀ x c,env'.cells.lookup x = some c → (scope.names.lookup x = some .cell ∨ ∃ v,s₁.heap.IsCell c v ∧ ¬ T c)) → (∀ x r,(x,r) ∈ xV scope.names ρ → ∃ v,zm prog w s₁.heap M v r ∧ ∃ c,env'.cells.lookup x = some c ∧ s₁.heap.IsCell c (some v) ∧ ¬ T c ∧ (x == ("__classdict__" : Str)) = false) →
    En prog w B scope.names env' s.heap M' (bs y ++ xV scope.names ρ) (μ c) → yu scope.names env' s.heap → (∃ vs : List Value,s.heap.PlainList D vs.toArray ∧ zE prog w s.heap M' vs outs) →
    wpAny (model prog w) A (tail (.ref D) env') (fun _ s' => ∃ c' outs',Pc (i + 1) c' outs' ∧ vU prog w scope.names env' M' T D (μ c') [] outs' s s') E s)
  (hQ : ∀ s₁ c₀,Z s₁ c₀ → ∀ c outs acc C s',Pc ys.length c outs → Yb W s₁ s' → s₁.heap.get? C = none → (∃ m,s'.heap.Ns C m) → Rp prog w s'.heap (fun a => M a ∨ a = C) acc (.list outs) → (∀ a d,(a,d) ∈ μ c → zc prog w s'.heap (fun a => M a ∨ a = C) a d) → compPost (model prog w) A E use Q acc C (.ok .next) s') :
  wpAny (model prog w) A (comprehension (.ListComp elt (⟨target,iter,ifs,0⟩ :: gens) scope pos) scope env pos' (newList []) false (eval iter env) use) Q E s:=by
 have O:=vo hc
 obtain ⟨cl,hclos,h1,h2⟩:=xM N₀ hc
 refine wpAny_comprehension_free rfl hfs hclos O.fn (fun x hx hk => O.loc x hx hk) (wpAny_mono hsrc (fun xv s₁ q => ?_) fun _ _ x => x)
 obtain ⟨c₀,hz,hp₀,S₁,rx,hxW⟩:=q
 have turn:=turn s₁ c₀ hz
 have hQ:=hQ s₁ c₀ hz
 clear hz hsrc
 refine q9 R.hh hs rx fun I fp wr P St s₂ src stay k₂ => ?_
 refine wpAny_newObj_type (jT ?_)
 dsimp only
 -- the places
 obtain ⟨h₂,tk₂,rfl,kk₂⟩:=k₂
 dsimp only at src ⊢
 generalize hH : h₂.push { cls:=.type "list",dict:=none,data:=.seq ([] : List Value).toArray } = H
 have hHsz : H.objs.size = h₂.objs.size + 1:=by rw [← hH,Heap.size_push]
 have hDget : H.get? h₂.objs.size = some { cls:=.type "list",dict:=none,data:=.seq ([] : List Value).toArray }:=by rw [← hH]; exact Heap.get?_push_size _ rfl
 have kH : zR h₂ H:=fun a o e => by rw [← hH]; exact Heap.get?_push_of_some _ e
 have hP2 : (H.push { cls:=.type "dict",data:=.dict #[] }).objs.size = H.objs.size + 1:=Heap.size_push ..
 have ok:=qw scope.names (H.push { cls:=.type "dict",data:=.dict #[] })
 rw [hP2] at ok
 have kP : zR H (pushCells (H.push { cls:=.type "dict",data:=.dict #[] }) scope.names):=fun a o e => pushCells_keeps _ _ a o (Heap.get?_push_of_some _ e)
 have k₄ : zR s₁.heap (pushCells (H.push { cls:=.type "dict",data:=.dict #[] }) scope.names):=zR.trans kk₂ (kH.trans kP)
 have fresh : ∀ a,h₂.objs.size ≤ a → s₁.heap.get? a = none:=fun a ha => by
  cases e : s₁.heap.get? a with
  | none => rfl
  | some o => exact absurd (Heap.lt_size (kk₂ a o e)) (Nat.not_lt.mpr ha)
 have hlt : ∀ x c,env.cells.lookup x = some c → c < H.objs.size:=fun x c e => by
  obtain ⟨v,o,q,_⟩:=S₁.celled x c e
  exact Heap.lt_size (kH _ _ (kk₂ _ _ q))
 have N':=W9 (env:=env) N₀ hc h1 h2 H.objs.size hlt
 -- the own cells
 have ownc : ∀ x c,(cellsFrom (H.objs.size + 1) scope.names cl).lookup x = some c → ((x,c) ∈ cellsFrom (H.objs.size + 1) scope.names [] ∧ scope.names.lookup x = some .cell) ∨ (cl.lookup x = some c ∧ scope.names.lookup x ≠ some .cell):=by
  intro x c e
  rw [zj,List.lookup_append] at e
  cases q : (cellsFrom (H.objs.size + 1) scope.names []).lookup x with
  | some c' =>
    rw [q] at e
    have e : c' = c:=by simpa using e
    subst e
    have m:=mem_of_lookup q
    refine .inl ⟨m,O.cell x ?_⟩
    rcases yJ _ _ _ _ _ m with h | h
    · exact h
    · cases h
  | none =>
    rw [q] at e
    refine .inr ⟨by simpa using e,fun hx => ?_⟩
    have:=yS scope.names (H.objs.size + 1) [] x (.inl (mem_of_lookup hx))
    rw [q] at this; cases this
 have F₄ : yu scope.names (compEnvC scope (cellsFrom (H.objs.size + 1) scope.names cl) H.objs.size env) (pushCells (H.push { cls:=.type "dict",data:=.dict #[] }) scope.names):=by
  refine ⟨⟨_,(Heap.Ns.new H (.type "dict")).keeps (pushCells_keeps _ _)⟩,fun x c hx e => ?_⟩
  rcases ownc x c e with ⟨m,_⟩ | ⟨_,n⟩
  · exact ⟨_,(ok.empty x c m).1⟩
  · exact absurd hx n
 have hF : ∀ a,zO scope.names (compEnvC scope (cellsFrom (H.objs.size + 1) scope.names cl) H.objs.size env) a → H.objs.size ≤ a:=by
  rintro a (rfl | ⟨x,hx,e⟩)
  · exact Nat.le_refl _
  · rcases ownc x a e with ⟨m,_⟩ | ⟨_,n⟩
    · exact Nat.le_of_succ_le (ok.empty x a m).2
    · exact absurd hx n
 have hFf : ∀ a,zO scope.names (compEnvC scope (cellsFrom (H.objs.size + 1) scope.names cl) H.objs.size env) a → s₁.heap.get? a = none:=fun a x => fresh a (leN (by have:=leN (hF a x); omega))
 have live : ∀ c a d,(a,d) ∈ μ c → ∃ o,s₁.heap.get? a = some o:=fun c a d m => by
  obtain ⟨d',m'⟩:=hμ c c₀ a d m
  exact xX (S₁.mem a d' m')
 have hWl : ∀ a ∈ W,∃ o,s₁.heap.get? a = some o:=fun a m => S₁.old a (hW a m).1
 have hDW : h₂.objs.size ∉ W:=fun z => by obtain ⟨o,e⟩:=hWl _ z; rw [fresh _ (Nat.le_refl _)] at e; cases e
 have hcellW : ∀ a ∈ W,∀ v,¬ s₁.heap.IsCell a v:=fun a m v q => by
  obtain ⟨d,hd⟩:=hWμ c₀ a m
  exact zn (S₁.mem a d hd) q
 have nT : ∀ c v,s₁.heap.IsCell c v → ¬ (c = h₂.objs.size ∨ c ∈ W ∨ zO scope.names (compEnvC scope (cellsFrom (H.objs.size + 1) scope.names cl) H.objs.size env) c):=by
  rintro c v ⟨o,q1,q2⟩ (rfl | z | z)
  · rw [fresh _ (Nat.le_refl _)] at q1; cases q1
  · exact hcellW c z v ⟨o,q1,q2⟩
  · rw [hFf c z] at q1; cases q1
 have hcl' : ∀ x c,(compEnvC scope (cellsFrom (H.objs.size + 1) scope.names cl) H.objs.size env).cells.lookup x = some c → (scope.names.lookup x = some .cell ∨ ∃ v,s₁.heap.IsCell c v ∧ ¬ (c = h₂.objs.size ∨ c ∈ W ∨ zO scope.names (compEnvC scope (cellsFrom (H.objs.size + 1) scope.names cl) H.objs.size env) c)):=by
  intro x c e
  rcases ownc x c e with ⟨_,hx⟩ | ⟨hx,_⟩
  · exact .inl hx
  · obtain ⟨v,q⟩:=S₁.celled x c (h1 x c hx)
    exact .inr ⟨v,q,nT c v q⟩
 have hcap' : ∀ x r,(x,r) ∈ xV scope.names ρ → ∃ v,zm prog w s₁.heap M v r ∧ ∃ c,(compEnvC scope (cellsFrom (H.objs.size + 1) scope.names cl) H.objs.size env).cells.lookup x = some c ∧ s₁.heap.IsCell c (some v) ∧ ¬ (c = h₂.objs.size ∨ c ∈ W ∨ zO scope.names (compEnvC scope (cellsFrom (H.objs.size + 1) scope.names cl) H.objs.size env) c) ∧ (x == ("__classdict__" : Str)) = false:=by
  intro x r hm
  have hm2:=List.mem_filter.mp hm
  have hfree : scope.names.lookup x = some .free:=by simpa using hm2.2
  obtain ⟨v,hv,hr⟩:=S₁.vars x r hm2.1
  have hmf:=mem_of_lookup hfree
  obtain ⟨ho,hcd⟩:=O.free x hmf
  refine ⟨v,hr, ?_⟩
  rcases hv with ⟨a,_⟩ | ⟨_,c,e,q⟩
  · exfalso
    rcases ho with ho | ho
    · rw [S₁.n.ce x ho] at a; cases a
    · rcases S₁.n.fr x ho with q | q <;> (rw [q] at a; cases a)
  · refine ⟨c, ?_,q,nT c _ q,hcd⟩
    show (cellsFrom (H.objs.size + 1) scope.names cl).lookup x = some c
    obtain ⟨c',hc'⟩:=Option.isSome_iff_exists.mp (h2 x hmf)
    have:=h1 x c' hc'
    rw [e] at this; cases this
    rw [zj,List.lookup_append]
    cases q2 : (cellsFrom (H.objs.size + 1) scope.names []).lookup x with
    | none => simpa using hc'
    | some c2 =>
      exfalso
      rcases yJ _ _ _ _ _ (mem_of_lookup q2) with h | h
      · rw [O.cell x h] at hfree; cases hfree
      · cases h
 have hfpT : ∀ a,(a = h₂.objs.size ∨ a ∈ W ∨ zO scope.names (compEnvC scope (cellsFrom (H.objs.size + 1) scope.names cl) H.objs.size env) a) → a ∉ fp:=by
  rintro a (rfl | z | z) hb
  · exact Nat.lt_irrefl _ (src.lo _ hb)
  · rcases stay a hb with x | x
    · obtain ⟨o,e⟩:=hWl a z; rw [src.fresh a x] at e; cases e
    · exact hxW a z x
  · have q:=leN (hF a z)
    have q2:=ltN (src.lo a hb)
    dsimp only at q2
    omega
 have hTB : ∀ a,(a = h₂.objs.size ∨ a ∈ W ∨ zO scope.names (compEnvC scope (cellsFrom (H.objs.size + 1) scope.names cl) H.objs.size env) a) → B.get? a = none:=by
  rintro a (rfl | z | z)
  · cases e : B.get? h₂.objs.size with
    | none => rfl
    | some o => have:=S₁.base _ _ e; rw [fresh _ (Nat.le_refl _)] at this; cases this
  · exact (hW a z).2
  · cases e : B.get? a with
    | none => rfl
    | some o => have:=S₁.base _ _ e; rw [hFf a z] at this; cases this
 have loop : ∀ s₄ : Shared,s₄ = { s₁ with heap:=pushCells (H.push { cls:=.type "dict",data:=.dict #[] }) scope.names,toks:=tk₂ } →
    codeAny (model prog w) A (.compLoop (.ListComp elt (⟨target,iter,ifs,0⟩ :: gens) scope pos) 0 (.ref I) (.ref h₂.objs.size) (compEnvC scope (cellsFrom (H.objs.size + 1) scope.names cl) H.objs.size env))
      (compPost (model prog w) A E use Q (.ref h₂.objs.size) H.objs.size) s₄:=by
  rintro s₄ rfl
  refine ko (M:=M) (M':=fun a => M a ∨ (a = h₂.objs.size ∨ a ∈ W ∨ zO scope.names (compEnvC scope (cellsFrom (H.objs.size + 1) scope.names cl) H.objs.size env) a) ∨ a ∈ wr) (T:=fun a => a = h₂.objs.size ∨ a ∈ W ∨ zO scope.names (compEnvC scope (cellsFrom (H.objs.size + 1) scope.names cl) H.objs.size env) a) (W:=W) (ρ:=ρ) (μ:=μ) (bs:=bs) (Pc:=Pc) (F:=fun _ _ _ => []) (c₀:=c₀) (outs₀:=[])
    (hct _ _) N' R.hh src (fun a => Iff.rfl) (fun a => Iff.rfl) S₁.base S₁.old ?_ hTB hfpT ?_ hDW ?_ hWμ ?_ hcl' hcap' (ρx:=[]) (fun _ _ _ _ m => by cases m) hasg hapart ?_ hp₀ ?_ ?_
  · rintro a o (rfl | z | z) e
    · rw [fresh _ (Nat.le_refl _)] at e; cases e
    · exact (hW a z).1
    · rw [hFf a z] at e; cases e
  · intro z
    have:=leN (hF _ z)
    omega
  · intro a m z
    obtain ⟨o,e⟩:=hWl a m
    rw [hFf a z] at e; cases e
  · intro c a d m
    obtain ⟨o,e⟩:=live c a d m
    exact ⟨fun z => (by rw [hFf a z] at e; cases e),o,e⟩
  · intro i y c outs s E hy hP k hE F hacc
    refine turn i y c outs s _ _ _ _ E ⟨rfl,rfl⟩ (fun a t n => t.elim (fun e => e ▸ fresh _ (Nat.le_refl _)) fun t => t.elim (fun z => absurd z n) (hFf a)) hy hP (fun a m => .inl m) ?_ k (fun a => Iff.rfl) (fun a t => .inr (.inl t)) hTB ?_ hDW ?_ ?_ hcl' hcap' hE F hacc
    · rintro a o (m | (rfl | z | z) | z) e
      · exact m
      · rw [fresh _ (Nat.le_refl _)] at e; cases e
      · exact (hW a z).1
      · rw [hFf a z] at e; cases e
      · rw [src.fresh a z] at e; cases e
    · intro z
      have:=leN (hF _ z)
      omega
    · intro a m z
      obtain ⟨o,e⟩:=hWl a m
      rw [hFf a z] at e; cases e
    · intro c a d m
      obtain ⟨o,e⟩:=live c a d m
      exact ⟨fun z => (by rw [z,fresh _ (Nat.le_refl _)] at e; cases e),fun z => (by rw [hFf a z] at e; cases e)⟩
  · refine ⟨fun a o _ e => k₄ a o e, ?_,F₄,⟨[],⟨_,kP _ _ hDget⟩,.nil⟩,fun a d m => ?_,fun _ _ m => by cases m⟩
    · exact src.W.frame _ _ _ src.st fun b _ o e => kP b o (kH b o e)
    · refine (S₁.mem a d m).to (fun o e => k₄ a o e) fun a o m e => ⟨k₄ a o e, ?_⟩
      rintro (z | (rfl | z | z) | z)
      · exact m z
      · rw [fresh _ (Nat.le_refl _)] at e; cases e
      · exact m (hW a z).1
      · rw [hFf a z] at e; cases e
      · rw [src.fresh a z] at e; cases e
  · rintro c outs s' hP ⟨⟨h',tk',rfl⟩,g1,g2,⟨vs,hl,hr⟩,g4,_⟩
    dsimp only at g1 g2 hl hr g4 ⊢
    have less : ∀ a,(M a ∨ a = H.objs.size) → (M a ∨ (a = h₂.objs.size ∨ a ∈ W ∨ zO scope.names (compEnvC scope (cellsFrom (H.objs.size + 1) scope.names cl) H.objs.size env) a) ∨ a ∈ wr):=fun a m => m.elim .inl fun e => .inr (.inl (.inr (.inr (.inl e))))
    refine hQ c outs _ _ _ hP ⟨h',tk',rfl,fun a o n e => g1 a o ?_ e⟩ (fresh _ (leN (by omega))) g2.ns (.list hl ?_ (hr.less less)) (fun a d m => (g4 a d m).to (fun _ e => e) fun b o m e => ⟨e,fun z => m (less b z)⟩)
    · rintro (rfl | z | z)
      · rw [fresh _ (Nat.le_refl _)] at e; cases e
      · exact n z
      · rw [hFf a z] at e; cases e
    · rintro (m | e)
      · obtain ⟨o,e⟩:=S₁.old _ m; rw [fresh _ (Nat.le_refl _)] at e; cases e
      · have e : (h₂.objs.size : Nat) = H.objs.size:=e
        omega
 exact codeAny_compStart_list (loop _ rfl) (src.W.self 0 _ _ _ (src.W.frame _ _ _ src.st fun b _ o e => kP b o (kH b o e)) (loop _ rfl))
theorem Ky {α : Type} (t : Sem Bool) (x : Sem Unit) (k : Sem α) : (t >>= fun ok => if ok = true then x >>= fun _ => k else k) = ((t >>= fun ok => if ok = true then x else pure ()) >>= fun _ => k):=by
 rw [bind_assoc]
 refine congrArg (t >>= ·) (funext fun ok => ?_)
 cases ok
 · rfl
 · rfl
theorem QH (elt target iter : Expr) (ifs : List Expr) (scope : Scope) (pos : Pos) (acc : Value) (env' : Env) : wg (.ListComp elt [⟨target,iter,ifs,0⟩] scope pos) 0 target iter acc env'
   ((forIn ifs true fun c r => if r = true then do let ok ← isTrue c env' (eval c env'); pure (ForInStep.yield ok) else pure (ForInStep.yield r)) >>= fun ok => if ok = true then (do let _ ← call (.builtin "list.append") [acc,← eval elt env']) else pure ()):=by
 intro it
 rw [compTurn_list]
 refine congrArg (standAt iter.pos >>= ·) (funext fun _ => congrArg (pyNext it >>= ·) (funext fun o => ?_))
 cases o
 · rfl
 · rename_i v
   refine congrArg (letOwnedTupleGo target it v >>= ·) (funext fun _ => congrArg (assign target env' v >>= ·) (funext fun _ => ?_))
   exact Ky _ _ _
theorem ZO {α : Type} {names : zJ} {scope : Scope} {ρ : List (Str × RV)} {μ : List (Addr × D)} {elt target iter : Expr} {ifs : List Expr} {pos pos' : Pos} {dsrc : D} {use : Option (Value → Sem Unit)}
   (S : En prog w B names env h M ρ μ) (R : Rm A 0) (hc : yH names scope = true)
   (hsrc : Ev prog w A h iter env (PR prog w M dsrc)) (ys : List α) (g : α → D) (hs : zb dsrc (ys.map g)) (bs : α → List (Str × RV)) (p : α → Bool) (f : α → D)
   (hasg : ∀ y ∈ ys,wD prog w scope.names target (g y) (bs y)) (hapart : ∀ y ∈ ys,∀ x r,(x,r) ∈ bs y → scope.names.lookup x ≠ some .free)
   (turn : ∀ y ∈ ys,∀ env' h' M',zR h h' → En prog w B scope.names env' h' M' (bs y ++ xV scope.names ρ) μ → xO prog w A h' ifs env' (p y) ∧ (p y = true → Ev prog w A h' elt env' (PS prog w M' (f y))))
   (hsz : ys.length ≤ sizeLine) (hfs : ∀ x,foldedSetIterable iter env x = pure x)
   {s : Shared} {E : Value → Shared → Prop} {Q : Value → Shared → Prop} (k : zR h s.heap)
   (hQ : ∀ acc C s',Keeps s s' → s.heap.get? C = none → (∃ m,s'.heap.Ns C m) → Rp prog w s'.heap (fun a => M a ∨ a = C) acc (.list ((ys.filter p).map f)) → compPost (model prog w) A E use Q acc C (.ok .next) s') :
   wpAny (model prog w) A (comprehension (.ListComp elt [⟨target,iter,ifs,0⟩] scope pos) scope env pos' (newList []) false (eval iter env) use) Q E s:=by
 refine wq (B:=B) (M:=M) (ρ:=ρ) (dsrc:=dsrc) (Z:=fun s₁ (_ : Unit) => Keeps s s₁) (W:=[]) (μ:=fun _ => μ) (Pc:=fun i _ outs => outs = ((ys.take i).filter p).map f) S.n R hc ys g hs bs _ (QH elt target iter ifs scope pos) hasg hapart hfs (fun a m => by cases m) (fun c a m => by cases m) (fun _ _ a d m => ⟨d,m⟩)
   (hsrc s E _ k fun xv s₁ k₁ rx => ⟨(),k₁,rfl,S.ext (k.trans (ke k₁)),rx,fun a m => by cases m⟩) ?_ ?_
 · intro s₁ c₀ hz i y c outs s₂ env' M' T D E' _ hfr hy hP hMM hMn kT hT hTM hTB hDF hDW hWF hpl hcl hcap hE F hacc
   have hmy : y ∈ ys:=List.mem_of_getElem? hy
   have kx : zR h s₂.heap:=fun a o e => kT a o (fun t => by have q:=ke hz a o (k a o e); rw [hfr a t (fun m => by cases m)] at q; cases q) (ke hz a o (k a o e))
   obtain ⟨ht,he⟩:=turn y hmy env' s₂.heap M' kx hE
   refine wpAny_bind (ht _ _ _ (zR.refl _) fun s₃ k₃ => ?_)
   obtain ⟨h₃,tk₃,rfl,kk⟩:=k₃
   have to3 : ∀ a o,¬ M' a → s₂.heap.get? a = some o → h₃.get? a = some o ∧ ¬ M' a:=fun a o m e => ⟨kk a o e,m⟩
   have F₃ : yu scope.names env' h₃:=F.to fun a o _ e => kk a o e
   have hm₃ : ∀ a d,(a,d) ∈ μ → zc prog w h₃ M' a d:=fun a d m => (hE.mem a d m).to (fun o e => kk a o e) to3
   obtain ⟨vs,hl,hr⟩:=hacc
   have hacc₃ : ∃ vs : List Value,h₃.PlainList D vs.toArray ∧ zE prog w h₃ M' vs outs:=⟨vs,hl.at fun o e => kk D o e,hr.to to3⟩
   have hft:=kR p f ys i y hy
   subst hP
   cases hp : p y with
   | false =>
    rw [hp,if_neg Bool.false_ne_true] at hft
    exact wpAny_pure ⟨(),_,hft.symm,⟨h₃,tk₃,rfl⟩,fun a o _ e => kk a o e,F₃,hacc₃,hm₃,fun _ _ m => by cases m⟩
   | true =>
    rw [hp,if_pos rfl] at hft
    refine wpAny_mono (qU (W:=[]) (Z:=fun _ : Unit => True) (μ:=fun _ => μ) (ρx:=[]) F₃ hacc₃ hT hTM hDF hDW hWF (fun c a d m => (hpl c a d m).1) ?_ (fun _ _ m => by cases m) (fun x c e => (hcl x c e).imp (fun q => .inr ⟨x,q,e⟩) fun ⟨_,_,t⟩ => t) fun Q q => he hp _ _ _ kk fun v s' ks rv => q v s' () trivial (by obtain ⟨h',t',e,k'⟩:=ks; exact ⟨h',t',e,fun a o _ => k' a o⟩) (fun a d m => (hm₃ a d m).to (fun o e => ke ks a o e) fun a o m e => ⟨ke ks a o e,m⟩) rv) (fun _ s' q => ?_) fun _ _ x => x
    · rw [List.length_map]
      exact Nat.le_trans (List.length_filter_le _ _) (Nat.le_trans (by rw [List.length_take]; exact Nat.min_le_right _ _) hsz)
    · obtain ⟨c',_,⟨h',t',e⟩,g1,g2⟩:=q
      exact ⟨c',_,hft.symm,⟨h',t',e⟩,fun a o t q => g1 a o t (kk a o q),g2⟩
 · intro s₁ c₀ hz c outs acc C s' hP ef hC hn hr _
   obtain ⟨h₁,t₁,rfl,k₁⟩:=hz
   obtain ⟨h',t',rfl,k'⟩:=ef
   subst hP
   rw [List.take_length] at hr
   refine hQ acc C _ ⟨h',t',rfl,fun a o e => k' a o (fun m => by cases m) (k₁ a o e)⟩ ?_ hn hr
   cases e : s.heap.get? C with
   | none => rfl
   | some o => rw [k₁ _ _ e] at hC; cases hC
end
section
variable {prog : Program} {w : World} {A : Around} {h : Heap} {env : Env} {M : Addr → Prop}
theorem Ev.compF {α : Type} {B : Heap} {names : zJ} {scope : Scope} {ρ : List (Str × RV)} {μ : List (Addr × D)} {elt target iter : Expr} {ifs : List Expr} {pos : Pos} {dsrc : D}
  (S : En prog w B names env h M ρ μ) (R : Rm A 0) (hc : yH names scope = true)
  (hsrc : Ev prog w A h iter env (PR prog w M dsrc)) (ys : List α) (g : α → D) (hs : zb dsrc (ys.map g)) (bs : α → List (Str × RV)) (p : α → Bool) (f : α → D)
  (hasg : ∀ y ∈ ys,wD prog w scope.names target (g y) (bs y)) (hapart : ∀ y ∈ ys,∀ x r,(x,r) ∈ bs y → scope.names.lookup x ≠ some .free)
  (hsz : ys.length ≤ sizeLine) (hfs : ∀ x,foldedSetIterable iter env x = pure x)
  (turn : ∀ y ∈ ys,∀ env' h' M',zR h h' → En prog w B scope.names env' h' M' (bs y ++ xV scope.names ρ) μ → xO prog w A h' ifs env' (p y) ∧ (p y = true → Ev prog w A h' elt env' (PS prog w M' (f y)))) :
  Ev prog w A h (.ListComp elt [⟨target,iter,ifs,0⟩] scope pos) env (PS prog w M (.list ((ys.filter p).map f))):=by
 intro s E Q k hQ
 rw [eval_ListComp]
 refine ZO S R hc hsrc ys g hs bs p f hasg hapart turn hsz hfs (use:=none) k ?_
 rintro acc C s' ks hC ⟨m,n⟩ r
 obtain ⟨h',tk,rfl,kk⟩:=ks
 refine ⟨m,n,fun h'' sb => hQ acc _ ⟨h'',tk,rfl,fun a o e => sb.extBut a o (fun q => by rw [q,hC] at e; cases e) (kk a o e)⟩ (r.to fun a o m' e => ⟨sb.extBut a o (fun q => m' (.inr q)) e,fun x => m' (.inl x)⟩)⟩
theorem Ev.compM {α : Type} {B : Heap} {names : zJ} {scope : Scope} {ρ : List (Str × RV)} {μ : List (Addr × D)} {elt target iter : Expr} {pos : Pos} {dsrc : D}
  (S : En prog w B names env h M ρ μ) (R : Rm A 0) (hc : yH names scope = true)
  (hsrc : Ev prog w A h iter env (PR prog w M dsrc)) (ys : List α) (g : α → D) (hs : zb dsrc (ys.map g)) (bs : α → List (Str × RV)) (f : α → D)
  (hasg : ∀ y ∈ ys,wD prog w scope.names target (g y) (bs y)) (hapart : ∀ y ∈ ys,∀ x r,(x,r) ∈ bs y → scope.names.lookup x ≠ some .free)
  (hsz : ys.length ≤ sizeLine) (hfs : ∀ x,foldedSetIterable iter env x = pure x)
  (turn : ∀ y ∈ ys,∀ env' h' M',zR h h' → En prog w B scope.names env' h' M' (bs y ++ xV scope.names ρ) μ → Ev prog w A h' elt env' (PS prog w M' (f y))) :
  Ev prog w A h (.ListComp elt [⟨target,iter,[],0⟩] scope pos) env (PS prog w M (.list (ys.map f))):=by
 have:=Ev.compF (pos:=pos) S R hc hsrc ys g hs bs (fun _ => true) f hasg hapart hsz hfs (fun y hy env' h' M' kx hE => ⟨xO.nil,fun _ => turn y hy env' h' M' kx hE⟩)
 rwa [List.filter_eq_self.mpr fun _ _ => rfl] at this
inductive yk (prog : Program) (w : World) (h : Heap) (M : Addr → Prop) : List Value → List D → Prop
 | nil : yk prog w h M [] []
 | cons {v : Value} {vs : List Value} {d : D} {ds : List D} : Rd prog w h M v d → yk prog w h M vs ds → yk prog w h M (v :: vs) (d :: ds)
theorem yk.ext {h' : Heap} {vs : List Value} {ds : List D} (k : zR h h') (r : yk prog w h M vs ds) : yk prog w h' M vs ds:=by
 induction r with
 | nil => exact .nil
 | cons x _ ih => exact .cons (x.ext k) ih
inductive xJ (prog : Program) (w : World) (A : Around) (h : Heap) (env : Env) (M : Addr → Prop) : List Expr → List D → Prop
 | nil : xJ prog w A h env M [] []
 | cons {e : Expr} {es : List Expr} {d : D} {ds : List D} : Ev prog w A h e env (PR prog w M d) → xJ prog w A h env M es ds → (∀ rest,starEach (e :: rest) env = (false,eval e env) :: starEach rest env) → xJ prog w A h env M (e :: es) (d :: ds)
theorem xJ.noStar {es : List Expr} {ds : List D} {pos : Pos} (x : xJ prog w A h env M es ds) : (backTo pos (starEach es env)).any (·.1) = false:=by
 induction x with
 | nil => rfl
 | cons _ _ hs ih =>
  rw [hs]
  show (false || _) = false
  rw [Bool.false_or]; exact ih
theorem Vv {es : List Expr} {ds : List D} {pos : Pos} (x : xJ prog w A h env M es ds) : ∀ (s : Shared) (E : Value → Shared → Prop) (Q : List Value → Shared → Prop),zR h s.heap →
  (∀ vs s',Keeps s s' → yk prog w s'.heap M vs ds → Q vs s') → wpAny (model prog w) A (spliced (backTo pos (starEach es env))) Q E s:=by
 induction x with
 | nil => intro s E Q k hQ; exact spliced_nil (hQ [] s (zF s) .nil)
 | @cons e es d ds hv _ hs ih =>
  intro s E Q k hQ
  rw [hs]
  show wpAny _ _ (spliced ((false,eval e env) :: backTo pos (starEach es env))) Q E s
  refine spliced_cons (hv s E _ k fun v s₁ k₁ r => ?_)
  exact ih s₁ E _ (k.trans (ke k₁)) fun vs s₂ k₂ rs => hQ _ s₂ (zA k₁ k₂) (.cons (r.ext (ke k₂)) rs)
theorem ZN {f : Value} {es : List Expr} {ds : List D} {pos : Pos} (x : xJ prog w A h env M es ds) {s : Shared} {E : Value → Shared → Prop} {Q : Args → Shared → Prop} (k : zR h s.heap)
  (hQ : ∀ vs s',Keeps s s' → yk prog w s'.heap M vs ds → Q ⟨vs,[]⟩ s') : wpAny (model prog w) A (evalArgs f true (backTo pos (starEach es env)) []) Q E s:=by
 have key:=Vv (pos:=pos) x s E (fun vs s' => Q ⟨vs,[]⟩ s') k hQ
 cases x with
 | nil => exact evalArgs_nil3 (hQ [] s (zF s) .nil)
 | cons hv _ hs =>
  rw [hs] at key ⊢
  exact evalArgs_plain key
noncomputable def Zf (B : Heap) (f : Value) : Prop:=(∀ a,f ≠ .ref a) ∨ ∃ a o fd,f = .ref a ∧ B.get? a = some o ∧ o.data = .func fd
theorem xT {M' : Model} {B : Heap} {f : Value} (K : Zf B f) (h : Heap) (X : zR B h) : ∃ k,(k = Keeper.frame ∨ k = Keeper.machine ∨ k = Keeper.boundFrame) ∧ Looks M' h (keeperOf f) k:=by
 rcases K with K | ⟨a,o,fd,rfl,e,d⟩
 · refine ⟨.machine,.inr (.inl rfl), ?_⟩
   cases f with
   | ref a => exact absurd rfl (K a)
   | _ => exact Looks.now
 · refine ⟨.frame,.inl rfl,(Looks.ld (part:=none) (X a o e)).andThen ?_⟩
   rw [d]
   exact Looks.now
noncomputable def zH (prog : Program) (w : World) (k : Nat) (B : Heap) (f : Value) (ds : List D) (d : D) : Prop :=
 ∀ (A : Around) (M : Addr → Prop) (s : Shared) (E : Value → Shared → Prop) (Q : Value → Shared → Prop) (vs : List Value),Rm A k → zR B s.heap → (∀ a,M a → ∃ o,s.heap.get? a = some o) → yk prog w s.heap M vs ds →
  (∀ v s',Keeps s s' → Rp prog w s'.heap M v d → Q v s') → wpAny (model prog w) A (call f vs) Q E s
theorem Ev.call {B : Heap} {names : zJ} {ρ : List (Str × RV)} {μ : List (Addr × D)} {k : Nat} (S : En prog w B names env h M ρ μ) (R : Rm A k) {fx : Str} {fp pos : Pos} {f : Value} {es : List Expr} {ds : List D} {d : D}
  (hf : Ev prog w A h (.Name fx fp) env (fun _ u => u = f)) (K : Zf B f) (hx : xJ prog w A h env M es ds) (hcall : zH prog w k B f ds d) : Ev prog w A h (.Call (.Name fx fp) es [] pos) env (PS prog w M d):=by
 intro s E Q kx hQ
 refine wpAny_Call_Name_kw (hf s E _ kx fun u s₁ k₁ e => ?_)
 subst e
 refine callWith_of (P:=zR B) (by show ((backTo pos (starEach es env)).any (·.1) || false) = false; rw [hx.noStar]; rfl) (fun h' X => xT K h' X) (ZN hx (kx.trans (ke k₁)) fun vs s₂ k₂ rs => ?_)
 refine ⟨S.base.trans (kx.trans ((ke k₁).trans (ke k₂))),hcall A M s₂ E Q _ R (S.base.trans (kx.trans ((ke k₁).trans (ke k₂)))) (fun a m => ?_) rs fun v s' k₃ r => hQ v s' (zA k₁ (zA k₂ k₃)) r⟩
 obtain ⟨o,e⟩:=S.old a m
 exact ⟨o,ke k₂ _ _ (ke k₁ _ _ (kx _ _ e))⟩
end
noncomputable def zW (fd : FuncData) (L f : Addr) : Env :=
 { scope:=fd.scope,locals:=L,globals:=fd.globals,cells:=cellsFrom (L + 1) fd.scope.names fd.closure,qual:=fd.qualname ++ ".<locals>.",func:=some f,code:=fd.code,frame:=some L,builtins:=fd.builtins }
structure jx (fd : FuncData) : Prop where
 glob : fd.globals = mainGlobals
 bl : fd.builtins = builtinsNs
 fn : fd.scope.kind = .function
 co : fd.scope.isCoroutine = false
 gen : fd.scope.isGenerator = false
 free : ∀ x,(x,NameKind.free) ∈ fd.scope.names → (fd.closure.lookup x).isSome = true
 cell : ∀ x,(x,NameKind.cell) ∈ fd.scope.names → fd.scope.names.lookup x = some .cell
 apart : ∀ x y c,fd.closure.lookup x = some c → fd.closure.lookup y = some c → x = y
noncomputable def WY (fd : FuncData) : Bool :=
 fd.globals == mainGlobals && fd.builtins == builtinsNs && fd.scope.kind == .function && !fd.scope.isCoroutine && !fd.scope.isGenerator && (fd.scope.names.all fun p => p.2 != .free) && (fd.scope.names.all fun p => p.2 != .cell || fd.scope.names.lookup p.1 == some .cell) && fd.closure.isEmpty
theorem QG {fd : FuncData} (h : WY fd = true) : jx fd:=by
 simp only [WY,Bool.and_eq_true] at h
 obtain ⟨⟨⟨⟨⟨⟨⟨h1,h2⟩,h3⟩,h4⟩,h5⟩,h6⟩,h7⟩,h8⟩:=h
 have hcl : fd.closure = []:=List.isEmpty_iff.mp h8
 refine ⟨by simpa using h1,by simpa using h2,by simpa using h3,by simpa using h4,by simpa using h5,fun x hx => ?_,fun x hx => ?_,fun x y c e => ?_⟩
 · have:=List.all_eq_true.mp h6 _ hx; simp at this
 · have:=List.all_eq_true.mp h7 _ hx; simpa using this
 · rw [hcl] at e; cases e
section
variable {prog : Program} {w : World} {A : Around} {h : Heap} {env : Env} {M : Addr → Prop}
theorem X9 {fd : FuncData} (O : jx fd) (L f : Addr) (hlt : ∀ x c,fd.closure.lookup x = some c → c < L) : vH fd.scope.names (zW fd L f) where
 fn:=O.fn
 glob:=O.glob
 bl:=O.bl
 gi:=fun _ h => h
 lo:=fun _ h => h
 ce:=fun _ h => h
 fr:=fun _ h => .inl h
 cl:=fun x hx => by
  show ∃ c,(cellsFrom (L + 1) fd.scope.names fd.closure).lookup x = some c
  refine Option.isSome_iff_exists.mp (yS _ _ _ _ ?_)
  rcases hx with hx | hx
  · exact .inl (mem_of_lookup hx)
  · exact .inr (O.free x (mem_of_lookup hx))
 apart:=fun x y c hx hy => by
  have hx : (cellsFrom (L + 1) fd.scope.names fd.closure).lookup x = some c:=hx
  have hy : (cellsFrom (L + 1) fd.scope.names fd.closure).lookup y = some c:=hy
  rw [zj] at hx hy
  have own:=cellsFrom_ok fd.scope.names { objs:=Array.replicate (L + 1) { cls:=.none } } (L + 1) [] ⟨fun _ _ hm => (nomatch hm),List.Pairwise.nil⟩ (by simp)
  have hs : ({ objs:=Array.replicate (L + 1) { cls:=.none } } : Heap).objs.size = L + 1:=by simp
  rw [hs] at own
  rw [List.lookup_append] at hx hy
  cases ex : (cellsFrom (L + 1) fd.scope.names []).lookup x with
  | some cx =>
    rw [ex] at hx
    have hx : cx = c:=by simpa using hx
    subst hx
    have mx:=own.empty x cx (mem_of_lookup ex)
    cases ey : (cellsFrom (L + 1) fd.scope.names []).lookup y with
    | some cy =>
     rw [ey] at hy
     have hy : cy = cx:=by simpa using hy
     subst hy
     exact name_of_addr own.apart (mem_of_lookup ex) (mem_of_lookup ey)
    | none =>
     rw [ey] at hy
     have hy : fd.closure.lookup y = some cx:=by simpa using hy
     have h3:=hlt y cx hy
     have h4 : L + 1 ≤ cx:=mx.2
     exact absurd h3 (Nat.not_lt.mpr (Nat.le_trans (Nat.le_succ _) h4))
  | none =>
    rw [ex] at hx
    have hx : fd.closure.lookup x = some c:=by simpa using hx
    cases ey : (cellsFrom (L + 1) fd.scope.names []).lookup y with
    | some cy =>
     rw [ey] at hy
     have hy : cy = c:=by simpa using hy
     subst hy
     have my:=own.empty y cy (mem_of_lookup ey)
     have h3:=hlt x cy hx
     have h4 : L + 1 ≤ cy:=my.2
     exact absurd h3 (Nat.not_lt.mpr (Nat.le_trans (Nat.le_succ _) h4))
    | none =>
     rw [ey] at hy
     have hy : fd.closure.lookup y = some c:=by simpa using hy
     exact O.apart x y c hx hy
theorem ZQ {M' : Model} {names : zJ} (N : vH names env) (fn : Str × Value → PUnit → Sem (ForInStep PUnit)) (hf : ∀ n v u,fn (n,v) u = (do storeName env n v; pure (.yield ⟨⟩))) : ∀ (binds : List (Str × Value)),(binds.map (·.1)).Nodup → (∀ p ∈ binds,zY names p.1 = true) →
  ∀ (s : Shared) (E : Value → Shared → Prop) (Q : PUnit → Shared → Prop),yu names env s.heap →
  (∀ h' tk,yu names env h' → (∀ x v,(x,v) ∈ binds → yG env h' x v) → (∀ y u,y ∉ binds.map (·.1) → yG env s.heap y u → yG env h' y u) →
    (∀ a,¬ zO names env a → h'.get? a = s.heap.get? a) → Q ⟨⟩ { s with heap:=h',toks:=tk }) →
  wpAny M' A (forIn binds ⟨⟩ fn) Q E s
 | [],_,_,s,E,Q,F,hQ => by
  rw [List.forIn_nil]; exact wpAny_pure (hQ s.heap s.toks F (fun _ _ hm => by cases hm) (fun _ _ _ hu => hu) fun _ _ => rfl)
 | p :: ps,hn,hk,s,E,Q,F,hQ => by
  obtain ⟨x,v⟩:=p
  simp only [List.map_cons] at hn
  rw [List.nodup_cons] at hn
  rw [List.forIn_cons,hf]
  refine wpAny_bind (wpAny_bind (yD N F (yR (hk _ (.head _))) fun h₁ tk F₁ hv hy hh => wpAny_pure ?_))
  refine ZQ N fn hf ps hn.2 (fun q hq => hk q (.tail _ hq)) _ E Q F₁ fun h₂ tk₂ F₂ hb hy₂ hh₂ => ?_
  refine hQ h₂ tk₂ F₂ (fun x' v' hm => ?_) (fun y u hm hu => ?_) fun a ha => (hh₂ a ha).trans (hh a ha)
  · rcases List.mem_cons.mp hm with e | hm
    · cases e; exact hy₂ _ _ hn.1 hv
    · exact hb _ _ hm
  · simp only [List.map_cons,List.mem_cons,not_or] at hm
    exact hy₂ y u hm.2 (hy y u hm.1 hu)
theorem xr {M' : Model} {fd : FuncData} (O : jx fd) {f : Addr} {binds : List (Str × Value)} {s : Shared} {E : Value → Shared → Prop} {Q : Env → Shared → Prop} (hlt : ∀ x c,fd.closure.lookup x = some c → c < s.heap.objs.size)
  (hn : (binds.map (·.1)).Nodup) (hk : ∀ p ∈ binds,zY fd.scope.names p.1 = true)
  (hQ : ∀ h' tk,yu fd.scope.names (zW fd s.heap.objs.size f) h' → (∀ x v,(x,v) ∈ binds → yG (zW fd s.heap.objs.size f) h' x v) → zR s.heap h' → (∀ a,zO fd.scope.names (zW fd s.heap.objs.size f) a → s.heap.objs.size ≤ a) → Q (zW fd s.heap.objs.size f) { s with heap:=h',toks:=tk }) :
  wpAny M' A (newFunctionEnv fd.scope fd.globals fd.closure binds (fd.qualname ++ ".<locals>.") (some f) fd.code none fd.builtins) Q E s:=by
 simp only [newFunctionEnv,Option.isSome_none,Bool.false_eq_true,if_false]
 refine wpAny_bind (wpAny_alloc ?_)
 refine wpAny_bind (wpAny_layCells _ (fun name kind cells => by cases hkc : kind == NameKind.cell <;> simp) _ _ _ _ ?_)
 rw [show ({ s with heap:=s.heap.push { cls:=.type "frame",data:=.dict #[] } } : Shared).heap.objs.size = s.heap.objs.size + 1 from Heap.size_push ..]
 have N:=X9 O s.heap.objs.size f hlt
 have hP2 : (s.heap.push { cls:=.type "frame",data:=.dict #[] }).objs.size = s.heap.objs.size + 1:=Heap.size_push ..
 have ok:=qw fd.scope.names (s.heap.push { cls:=.type "frame",data:=.dict #[] })
 rw [hP2] at ok
 have ownc : ∀ x c,(cellsFrom (s.heap.objs.size + 1) fd.scope.names fd.closure).lookup x = some c → fd.scope.names.lookup x = some .cell → (x,c) ∈ cellsFrom (s.heap.objs.size + 1) fd.scope.names []:=by
  intro x c e hx
  rw [zj,List.lookup_append] at e
  cases q : (cellsFrom (s.heap.objs.size + 1) fd.scope.names []).lookup x with
  | some c' =>
    rw [q] at e
    have e : c' = c:=by simpa using e
    subst e
    exact mem_of_lookup q
  | none =>
    have:=yS fd.scope.names (s.heap.objs.size + 1) [] x (.inl (mem_of_lookup hx))
    rw [q] at this; cases this
 have F₀ : yu fd.scope.names (zW fd s.heap.objs.size f) (pushCells (s.heap.push { cls:=.type "frame",data:=.dict #[] }) fd.scope.names):=by
  refine ⟨⟨_,(Heap.Ns.new s.heap (.type "frame")).keeps (pushCells_keeps _ _)⟩,fun x c hx e => ?_⟩
  exact ⟨_,(ok.empty x c (ownc x c e hx)).1⟩
 have hA : ∀ a,zO fd.scope.names (zW fd s.heap.objs.size f) a → s.heap.objs.size ≤ a:=by
  rintro a (rfl | ⟨x,hx,e⟩)
  · exact Nat.le_refl _
  · exact Nat.le_of_succ_le (ok.empty x a (ownc x a e hx)).2
 refine wpAny_bind (ZQ (env:=zW fd s.heap.objs.size f) N _ (fun _ _ _ => rfl) binds hn hk _ E _ F₀ fun h' tk F' hb hy hh => wpAny_pure (hQ h' tk F' hb (fun a o e => ?_) hA))
 rw [hh a fun x => absurd (Heap.lt_size e) (Nat.not_lt.mpr (hA a x))]
 exact pushCells_keeps _ _ a o (Heap.get?_push_of_some _ e)
end
structure St (prog : Program) (w : World) (B : Heap) (s₀ : Shared) (Own₀ M₀ : Addr → Prop) (names : zJ) (env : Env) (Own M : Addr → Prop) (ρ : List (Str × RV)) (μ : List (Addr × D)) (s : Shared) : Prop where
 same : ∃ h tk,s = { s₀ with heap:=h,toks:=tk }
 e : En prog w B names env s.heap M ρ μ
 f : yu names env s.heap
 keep : ∀ a o,¬ Own₀ a → s₀.heap.get? a = some o → s.heap.get? a = some o
 own : ∀ a,Own a → M a
 own₀ : ∀ a,Own₀ a → Own a
 fresh : ∀ a,Own a → Own₀ a ∨ s₀.heap.get? a = none
 more : ∀ a,M₀ a → M a
 fr : ∀ a,zO names env a → Own a
 base : ∀ a,Own a → B.get? a = none
 sep : ∀ a d,(a,d) ∈ μ → ¬ zO names env a
 nodup : (μ.map (·.1)).Nodup
section
variable {prog : Program} {w : World} {A : Around} {B : Heap} {s₀ s : Shared} {Own₀ M₀ Own M : Addr → Prop} {names : zJ} {env : Env} {ρ : List (Str × RV)} {μ : List (Addr × D)}
theorem St.step {s' : Shared} (S : St prog w B s₀ Own₀ M₀ names env Own M ρ μ s) (k : Keeps s s') : St prog w B s₀ Own₀ M₀ names env Own M ρ μ s':=by
 obtain ⟨h',tk',rfl,kk⟩:=k
 obtain ⟨h,tk,e⟩:=S.same
 exact ⟨⟨h',tk',by rw [e]⟩,S.e.ext kk,S.f.to fun a o _ e => kk a o e,fun a o n e => kk a o (S.keep a o n e),S.own,S.own₀,S.fresh,S.more,S.fr,S.base,S.sep,S.nodup⟩
theorem St.sub {ρ' : List (Str × RV)} (S : St prog w B s₀ Own₀ M₀ names env Own M ρ μ s) (h : ∀ x r,(x,r) ∈ ρ' → (x,r) ∈ ρ) : St prog w B s₀ Own₀ M₀ names env Own M ρ' μ s :=
 { S with e:={ S.e with vars:=fun x r m => S.e.vars x r (h x r m) } }
theorem St.anchor (S : St prog w B s₀ Own₀ M₀ names env Own M ρ μ s) : St prog w B s Own M names env Own M ρ μ s :=
 { S with same:=⟨s.heap,s.toks,rfl⟩,keep:=fun _ _ _ e => e,own₀:=fun _ o => o,fresh:=fun _ o => .inl o,more:=fun _ m => m }
theorem St.back {Own' M' : Addr → Prop} {ρ' : List (Str × RV)} {μ' : List (Addr × D)} {s' : Shared} (S : St prog w B s₀ Own₀ M₀ names env Own M ρ μ s) (T : St prog w B s Own M names env Own' M' ρ' μ' s') :
   St prog w B s₀ Own₀ M₀ names env Own M ρ' μ' s':=by
 obtain ⟨h,tk,e⟩:=S.same
 obtain ⟨h',tk',e'⟩:=T.same
 refine ⟨⟨h',tk',by rw [e',e]⟩,⟨T.e.base,T.e.n,fun a m => T.e.old a (T.more a m),T.e.celled,fun x r m => ?_,fun a d m => ?_⟩,T.f,fun a o n q => T.keep a o (fun x => ?_) (S.keep a o n q),S.own,S.own₀,S.fresh,S.more,S.fr,S.base,T.sep,T.nodup⟩
 · obtain ⟨v,a,b⟩:=T.e.vars x r m
   exact ⟨v,a,b.to fun a o n q => ⟨q,fun x => n (T.more a x)⟩⟩
 · exact (T.e.mem a d m).to (fun o q => q) fun a o n q => ⟨q,fun x => n (T.more a x)⟩
 · rcases S.fresh a x with y | y
   · exact n y
   · rw [q] at y; cases y
noncomputable def XJ (x : Str) (ρ : List (Str × RV)) : List (Str × RV):=ρ.filter fun p => p.1 != x
theorem xh {x y : Str} {r : RV} (hm : (y,r) ∈ ρ) (hn : (y != x) = true) : (y,r) ∈ XJ x ρ:=List.mem_filter.mpr ⟨hm,hn⟩
theorem St.written (S : St prog w B s₀ Own₀ M₀ names env Own M ρ μ s) {h' : Heap} {tk : Nat} (F' : yu names env h') (hk : ∀ a o,¬ zO names env a → s.heap.get? a = some o → h'.get? a = some o) {ρ' : List (Str × RV)}
   (hv : ∀ x r,(x,r) ∈ ρ' → ∃ v,yG env h' x v ∧ zm prog w s.heap M v r) : St prog w B s₀ Own₀ M₀ names env Own M ρ' μ { s with heap:=h',toks:=tk }:=by
 have hmv : ∀ a o,¬ M a → s.heap.get? a = some o → h'.get? a = some o ∧ ¬ M a:=fun a o m e => ⟨hk a o (fun x => m (S.own a (S.fr a x))) e,m⟩
 obtain ⟨h,t,e⟩:=S.same
 refine ⟨⟨h',tk,by rw [e]⟩,⟨fun a o q => ?_,S.e.n,fun a m => ?_,fun y c q => ?_,fun y u hm => ?_,fun a d hm => ?_⟩,F',fun a o n q => ?_,S.own,S.own₀,S.fresh,S.more,S.fr,S.base,S.sep,S.nodup⟩
 · refine hk a o (fun z => ?_) (S.e.base a o q)
   rw [S.base a (S.fr a z)] at q; cases q
 · obtain ⟨o,q⟩:=S.e.old a m
   by_cases hz : zO names env a
   · exact F'.has hz
   · exact ⟨o,hk a o hz q⟩
 · obtain ⟨u,q2⟩:=S.e.celled y c q
   by_cases hz : zO names env c
   · rcases hz with rfl | ⟨z,hz,e2⟩
     · obtain ⟨m,n⟩:=S.f.ns
       exact (yn n q2).elim
     · have:=S.e.n.apart _ _ _ e2 q
       subst this
       exact F'.cell z c hz q
   · obtain ⟨o,q3,q4⟩:=q2
     exact ⟨u,o,hk c o hz q3,q4⟩
 · obtain ⟨v,a,b⟩:=hv y u hm
   exact ⟨v,a,b.to hmv⟩
 · exact (S.e.mem a d hm).to (fun o q => hk a o (S.sep a d hm) q) hmv
 · refine hk a o (fun z => ?_) (S.keep a o n q)
   rcases S.fresh a (S.fr a z) with y | y
   · exact n y
   · rw [q] at y; cases y
theorem St.store (S : St prog w B s₀ Own₀ M₀ names env Own M ρ μ s) {x : Str} {v : Value} {r : RV} (hr : zm prog w s.heap M v r) (hx : zY names x = true) {E : Value → Shared → Prop} {Q : Unit → Shared → Prop}
   (hQ : ∀ s',St prog w B s₀ Own₀ M₀ names env Own M ((x,r) :: XJ x ρ) μ s' → Q () s') : wpAny (model prog w) A (storeName env x v) Q E s:=by
 refine yD S.e.n S.f (yR hx) fun h' tk F' hv hy hk => hQ _ (S.written F' (fun a o n e => (hk a n).trans e) fun y u hm => ?_)
 rcases List.mem_cons.mp hm with e2 | hm
 · cases e2
   exact ⟨v,hv,hr⟩
 · have hm2:=List.mem_filter.mp hm
   obtain ⟨u',hu,hr'⟩:=S.e.vars y u hm2.1
   exact ⟨u',hy y u' (by simpa using hm2.2) hu,hr'⟩
theorem St.assign (S : St prog w B s₀ Own₀ M₀ names env Own M ρ μ s) (hh : A.handled = none) {target : Expr} {d : D} {bs : List (Str × RV)} (G : wD prog w names target d bs) {v : Value} (hr : Rp prog w s.heap M v d) {E : Value → Shared → Prop} {Q : Unit → Shared → Prop}
   (hQ : ∀ s',St prog w B s₀ Own₀ M₀ names env Own M (bs ++ ρ.filter fun p => !(bs.map (·.1)).contains p.1) μ s' → Q () s') : wpAny (model prog w) A (assign target env v) Q E s:=by
 refine G.run A M env s E Q v hh S.e.n S.f hr fun h' tk F' hb hy hk => hQ _ (S.written F' hk fun y u hm => ?_)
 rcases List.mem_append.mp hm with hm | hm
 · exact hb y u hm
 · have hm2:=List.mem_filter.mp hm
   obtain ⟨u',hu,hr'⟩:=S.e.vars y u hm2.1
   refine ⟨u',hy y u' (fun r q => ?_) hu,hr'⟩
   have h2 : (bs.map (·.1)).contains y = true:=List.contains_iff_mem.mpr (List.mem_map.mpr ⟨(y,r),q,rfl⟩)
   rw [h2] at hm2
   exact absurd hm2.2 (by simp)
theorem St.mut (S : St prog w B s₀ Own₀ M₀ names env Own M ρ μ s) {s' : Shared} (k : Keeps s s') {a : Addr} {d : D} (hn : s.heap.get? a = none) (hc : zc prog w s'.heap (fun b => M b ∨ b = a) a d) :
   St prog w B s₀ Own₀ M₀ names env (fun b => Own b ∨ b = a) (fun b => M b ∨ b = a) ρ ((a,d) :: μ) s':=by
 have S':=S.step k
 have hM : ∀ b o,(M b ∨ b = a) → s.heap.get? b = some o → M b:=fun b o m e => m.elim id fun q => by rw [q,hn] at e; cases e
 have hex:=xX hc
 have more : ∀ {u : Value} {r : RV},zm prog w s.heap M u r → zm prog w s'.heap (fun b => M b ∨ b = a) u r:=fun hr => hr.to fun b o m e => ⟨ke k b o e,fun x => m (hM b o x e)⟩
 refine ⟨S'.same,⟨S'.e.base,S'.e.n,fun b m => m.elim (S'.e.old b) fun q => q ▸ hex,S'.e.celled,fun y u hm => ?_,fun b d' hm => ?_⟩,S'.f,S'.keep,fun b m => m.imp (S.own b) id,fun b m => .inl (S.own₀ b m),fun b m => m.elim (S.fresh b) fun q => ?_,fun b m => .inl (S.more b m),fun b x => .inl (S.fr b x),fun b m => ?_,fun b d' hm => ?_, ?_⟩
 · obtain ⟨v,hv,hr⟩:=S.e.vars y u hm
   exact ⟨v,hv.ext (ke k),more hr⟩
 · rcases List.mem_cons.mp hm with e2 | hm
   · cases e2; exact hc
   · exact (S.e.mem b d' hm).to (fun o q => ke k b o q) fun b o m e => ⟨ke k b o e,fun x => m (hM b o x e)⟩
 · subst q
   by_cases hz : Own₀ b
   · exact .inl hz
   · refine .inr ?_
     cases e : s₀.heap.get? b with
     | none => rfl
     | some o => rw [S.keep b o hz e] at hn; cases hn
 · rcases m with m | rfl
   · exact S.base b m
   · cases e : B.get? b with
     | none => rfl
     | some o => rw [S.e.base b o e] at hn; cases hn
 · rcases List.mem_cons.mp hm with e2 | hm
   · cases e2
     intro x
     obtain ⟨o,q⟩:=S.f.has x
     rw [hn] at q; cases q
   · exact S.sep b d' hm
 · rw [List.map_cons,List.nodup_cons]
   refine ⟨fun hm => ?_,S.nodup⟩
   obtain ⟨⟨b,d'⟩,hp,e⟩:=List.mem_map.mp hm
   dsimp only at e
   subst e
   obtain ⟨o,q⟩:=xX (S.e.mem b d' hp)
   rw [hn] at q; cases q
theorem St.widen (S : St prog w B s₀ Own₀ M₀ names env Own M ρ μ s) {s' : Shared} (k : Keeps s s') {M' : Addr → Prop} (hM : ∀ a,M a → M' a) (hn : ∀ a,M' a → M a ∨ (s.heap.get? a = none ∧ ∃ o,s'.heap.get? a = some o)) :
   St prog w B s₀ Own₀ M₀ names env Own M' ρ μ s':=by
 have S':=S.step k
 have hto : ∀ b o,¬ M b → s.heap.get? b = some o → s'.heap.get? b = some o ∧ ¬ M' b:=fun b o m e => ⟨ke k b o e,fun x => (hn b x).elim m fun q => by rw [q.1] at e; cases e⟩
 refine ⟨S'.same,⟨S'.e.base,S'.e.n,fun b m => (hn b m).elim (S'.e.old b) fun q => q.2,S'.e.celled,fun y u hm => ?_,fun b d' hm => ?_⟩,S'.f,S'.keep,fun b m => hM b (S.own b m),S.own₀,S.fresh,fun b m => hM b (S.more b m),S.fr,S.base,S.sep,S.nodup⟩
 · obtain ⟨v,hv,hr⟩:=S.e.vars y u hm
   exact ⟨v,hv.ext (ke k),hr.to hto⟩
 · exact (S.e.mem b d' hm).to (fun o q => ke k b o q) hto
theorem St.turned (S : St prog w B s₀ Own₀ M₀ names env Own M ρ μ s) {wr : List Addr} (hwr : ∀ a ∈ wr,M a ∧ ¬ Own a ∧ s₀.heap.get? a = none ∧ B.get? a = none ∧ (∀ d,(a,d) ∉ μ) ∧ (∀ v,¬ s.heap.IsCell a v)) {h' : Heap} {tk : Nat} (hk : ∀ a o,a ∉ wr → s.heap.get? a = some o → h'.get? a = some o) (hl : ∀ a ∈ wr,∃ o,h'.get? a = some o) :
   St prog w B s₀ Own₀ M₀ names env Own M ρ μ { s with heap:=h',toks:=tk }:=by
 have hto : ∀ b o,¬ M b → s.heap.get? b = some o → h'.get? b = some o ∧ ¬ M b:=fun b o m e => ⟨hk b o (fun x => m (hwr b x).1) e,m⟩
 obtain ⟨h,t,e⟩:=S.same
 refine ⟨⟨h',tk,by rw [e]⟩,⟨fun b o q => hk b o (fun x => by rw [(hwr b x).2.2.2.1] at q; cases q) (S.e.base b o q),S.e.n,fun b m => ?_,fun y c q => ?_,fun y u hm => ?_,fun b d hm => ?_⟩,S.f.to fun b o x q => hk b o (fun y => (hwr b y).2.1 (S.fr b x)) q,fun b o n q => hk b o (fun x => by rw [(hwr b x).2.2.1] at q; cases q) (S.keep b o n q),S.own,S.own₀,S.fresh,S.more,S.fr,S.base,S.sep,S.nodup⟩
 · by_cases hz : b ∈ wr
   · exact hl b hz
   · obtain ⟨o,q⟩:=S.e.old b m; exact ⟨o,hk b o hz q⟩
 · obtain ⟨u,o,q2,q3⟩:=S.e.celled y c q
   exact ⟨u,o,hk c o (fun x => (hwr c x).2.2.2.2.2 u ⟨o,q2,q3⟩) q2,q3⟩
 · obtain ⟨v,hv,hr⟩:=S.e.vars y u hm
   refine ⟨v, ?_,hr.to hto⟩
   rcases hv with ⟨x1,m,n,e1⟩ | ⟨x1,c,e1,q⟩
   · exact .inl ⟨x1,m,n.at' fun o e => hk _ o (fun x => (hwr _ x).2.1 (S.fr _ (.inl rfl))) e,e1⟩
   · obtain ⟨o,q2,q3⟩:=q
     exact .inr ⟨x1,c,e1,o,hk c o (fun x => (hwr c x).2.2.2.2.2 _ ⟨o,q2,q3⟩) q2,q3⟩
 · exact (S.e.mem b d hm).to (fun o q => hk b o (fun x => (hwr b x).2.2.2.2.1 d hm) q) hto
end
section
variable {prog : Program} {w : World} {A : Around} {B : Heap} {s₀ s : Shared} {Own₀ M₀ Own M : Addr → Prop} {names : zJ} {env : Env} {ρ : List (Str × RV)} {μ : List (Addr × D)}
 {E : Value → Shared → Prop} {Q : Flow → Shared → Prop} {rest : List Stmt}
theorem zD (h : Q .next s) : wpAny (model prog w) A (execs [] env) Q E s:=wpAny_execs_nil h
theorem yK (S : St prog w B s₀ Own₀ M₀ names env Own M ρ μ s) {x : Str} {p pos : Pos} {e : Expr} {d : D} (hv : Ev prog w A s.heap e env (PS prog w M d)) (hx : zY names x = true)
  (hs : swapsWith e (some (.Name x p)) pos.line env = pure false) (k : ∀ s',St prog w B s₀ Own₀ M₀ names env Own M ((x,.dat d) :: XJ x ρ) μ s' → wpAny (model prog w) A (execs rest env) Q E s') :
  wpAny (model prog w) A (execs (.Assign [.Name x p] e pos :: rest) env) Q E s :=
 wpAny_execs_cons (wpAny_Assign_Name (hv s E _ (zR.refl _) fun v s₁ k₁ r => (S.step k₁).store (r:=.dat d) r hx fun s' S' => k s' S') hs)
theorem WD (S : St prog w B s₀ Own₀ M₀ names env Own M ρ μ s) {x : Str} {p pos : Pos} {e : Expr} {r : RV} (hv : Ev prog w A s.heap e env (fun h v => zm prog w h M v r)) (hx : zY names x = true)
  (hs : swapsWith e (some (.Name x p)) pos.line env = pure false) (k : ∀ s',St prog w B s₀ Own₀ M₀ names env Own M ((x,r) :: XJ x ρ) μ s' → wpAny (model prog w) A (execs rest env) Q E s') :
  wpAny (model prog w) A (execs (.Assign [.Name x p] e pos :: rest) env) Q E s :=
 wpAny_execs_cons (wpAny_Assign_Name (hv s E _ (zR.refl _) fun v s₁ k₁ r => (S.step k₁).store r hx fun s' S' => k s' S') hs)
theorem Vj (S : St prog w B s₀ Own₀ M₀ names env Own M ρ μ s) {x : Str} {p pos : Pos} {op : Operator} {e : Expr} {d₀ d₁ d : D} (hm : (x,RV.dat d₀) ∈ ρ) (hv : Ev prog w A s.heap e env (PR prog w M d₁)) (hx : zY names x = true)
   (ho : ∀ (s : Shared) (E : Value → Shared → Prop) (Q : Value → Shared → Prop) (a b : Value),Rp prog w s.heap M a d₀ → Rd prog w s.heap M b d₁ → (∀ v s',Keeps s s' → Rp prog w s'.heap M v d → Q v s') → wpAny (model prog w) A (inplaceOp op a b) Q E s)
   (k : ∀ s',St prog w B s₀ Own₀ M₀ names env Own M ((x,.dat d) :: XJ x ρ) μ s' → wpAny (model prog w) A (execs rest env) Q E s') :
   wpAny (model prog w) A (execs (.AugAssign (.Name x p) op e pos :: rest) env) Q E s:=by
 refine wpAny_execs_cons (wpAny_AugAssign_Name ?_)
 obtain ⟨u,hu,hr⟩:=S.e.vars x _ hm
 have go : wpAny (model prog w) A (eval e env) (fun v s₂ => wpAny (model prog w) A (inplaceOp op u v) (fun r s₃ => wpAny (model prog w) A (storeName env x r) (fun _ s' => wpAny (model prog w) A (execs rest env) Q E s') E s₃) E s₂) E s:=by
   refine hv s E _ (zR.refl _) fun v s₁ k₁ r => ?_
   refine ho s₁ E _ u v (Rp.ext (ke k₁) hr) r fun z s₂ k₂ rz => ?_
   exact (S.step (zA k₁ k₂)).store (r:=.dat d) rz hx fun s' S' => k s' S'
 rcases hu with ⟨a,m,n,e1⟩ | ⟨a | ⟨a,a2⟩,c,e1,q⟩
 · exact wpAny_loadName_local S.e.n.fn a n e1 go
 · exact wpAny_loadName_cell S.e.n.fn a e1 q go
 · exact wpAny_loadName_free S.e.n.fn a e1 q go a2
theorem kQ {x : Str} {p : Pos} {line : Nat} {elt : Expr} {gens : List Comprehension} {scope : Scope} {pos : Pos} (N : vH names env) (hx : zY names x = true) :
 ∃ b,swapsWith (.ListComp elt gens scope pos) (some (.Name x p)) line env = pure b:=⟨_,rfl⟩
theorem JI {α : Type} {scope : Scope} {elt target iter : Expr} {ifs : List Expr} {cpos : Pos} {dsrc : D}
  (S : St prog w B s₀ Own₀ M₀ names env Own M ρ μ s) {x : Str} {xp pos : Pos} (hx : zY names x = true) (R : Rm A 0) (hc : yH names scope = true)
  (hsrc : Ev prog w A s.heap iter env (PR prog w M dsrc)) (ys : List α) (g : α → D) (hs : zb dsrc (ys.map g)) (bs : α → List (Str × RV)) (p : α → Bool) (f : α → D)
  (hasg : ∀ y ∈ ys,wD prog w scope.names target (g y) (bs y)) (hapart : ∀ y ∈ ys,∀ x r,(x,r) ∈ bs y → scope.names.lookup x ≠ some .free)
  (hsz : ys.length ≤ sizeLine) (hfs : ∀ x,foldedSetIterable iter env x = pure x)
  (turn : ∀ y ∈ ys,∀ env' h' M',zR s.heap h' → En prog w B scope.names env' h' M' (bs y ++ xV scope.names ρ) μ → xO prog w A h' ifs env' (p y) ∧ (p y = true → Ev prog w A h' elt env' (PS prog w M' (f y))))
  (k : ∀ s',St prog w B s₀ Own₀ M₀ names env Own M ((x,.dat (.list ((ys.filter p).map f))) :: XJ x ρ) μ s' → wpAny (model prog w) A (execs rest env) Q E s') :
  wpAny (model prog w) A (execs (.Assign [.Name x xp] (.ListComp elt [⟨target,iter,ifs,0⟩] scope cpos) pos :: rest) env) Q E s:=by
 obtain ⟨b,hb⟩:=kQ (p:=xp) (line:=pos.line) (elt:=elt) (gens:=[⟨target,iter,ifs,0⟩]) (scope:=scope) (pos:=cpos) S.e.n hx
 cases b with
 | false => exact yK S (Ev.compF S.e R hc hsrc ys g hs bs p f hasg hapart hsz hfs turn) hx hb k
 | true =>
  refine wpAny_execs_cons ?_
  rw [exec_Assign_Name_used _ _ _ _ hb]
  refine wpAny_bind (wpAny_standAt (wpAny_bind ?_))
  show wpAny _ A (do let _ ← comprehension (.ListComp elt [⟨target,iter,ifs,0⟩] scope cpos) scope env _ (newList []) false (eval iter env) (some (assign (.Name x xp) env))) _ _ s
  refine wpAny_bind (wpAny_mono (Q:=fun _ s' => wpAny (model prog w) A (execs rest env) Q E s') (ZO S.e R hc hsrc ys g hs bs p f hasg hapart turn hsz hfs (use:=some (assign (.Name x xp) env)) (zR.refl _) ?_) (fun _ _ q => wpAny_pure (wpAny_pure q)) fun _ _ e => e)
  rintro acc C s' ks hC ⟨m,n⟩ r
  show wpAny _ A (assign (.Name x xp) env acc) _ E s'
  have S':=S.step ks
  refine wpAny_assign_Name (yD S'.e.n S'.f (yR hx) fun h₂ tk₂ F₂ hv hy hk => ?_)
  have hCn : ¬ zO names env C:=fun z => by obtain ⟨o,e⟩:=S.f.has z; rw [hC] at e; cases e
  refine ⟨m,n.at' fun o e => (hk C hCn).trans e,fun h₃ sb => k _ ?_⟩
  -- the state behind
  have hkk : ∀ a o,¬ zO names env a → s.heap.get? a = some o → h₃.get? a = some o:=fun a o z e => sb.extBut a o (fun q => by rw [q,hC] at e; cases e) ((hk a z).trans (ke ks a o e))
  obtain ⟨h',tk',rfl,kk⟩:=ks
  have F₃ : yu names env h₃:=F₂.to fun a o z e => sb.extBut a o (fun q => hCn (q ▸ z)) e
  -- written from s' to h₃,but C: go by the heap behind the comprehension
  have W : St prog w B s₀ Own₀ M₀ names env Own M [] μ { s with heap:=h₃,toks:=tk₂ }:=(S.sub (ρ':=[]) (by intro _ _ q; cases q)).written F₃ hkk (by intro _ _ q; cases q)
  have hmv : ∀ a o,¬ (M a ∨ a = C) → h'.get? a = some o → h₃.get? a = some o ∧ ¬ M a:=fun a o q e => ⟨sb.extBut a o (fun z => q (.inr z)) ((hk a fun z => q (.inl (S.own a (S.fr a z)))).trans e),fun z => q (.inl z)⟩
  refine { W with e:={ W.e with vars:=fun y u hm => ?_ } }
  rcases List.mem_cons.mp hm with e2 | hm
  · cases e2
    refine ⟨acc, ?_,r.to hmv⟩
    rcases hv with ⟨a,m2,n2,e2⟩ | ⟨a,c,e2,q⟩
    · exact .inl ⟨a,m2,n2.sameBut sb fun z => hCn (.inl z.symm),e2⟩
    · refine .inr ⟨a,c,e2,q.sameBut sb fun z => ?_⟩
      subst z
      obtain ⟨v,o,q2,_⟩:=S.e.celled _ _ e2
      rw [hC] at q2; cases q2
  · have hm2:=List.mem_filter.mp hm
    obtain ⟨u',hu,hr'⟩:=S.e.vars y u hm2.1
    have hu':=hy y u' (by simpa using hm2.2) (hu.ext kk)
    refine ⟨u', ?_,hr'.to fun a o q e => ⟨hkk a o (fun z => q (S.own a (S.fr a z))) e,q⟩⟩
    rcases hu' with ⟨a,m2,n2,e2⟩ | ⟨a,c,e2,q⟩
    · exact .inl ⟨a,m2,n2.sameBut sb fun z => hCn (.inl z.symm),e2⟩
    · refine .inr ⟨a,c,e2,q.sameBut sb fun z => ?_⟩
      subst z
      obtain ⟨v,o,q2,_⟩:=S.e.celled _ _ e2
      rw [hC] at q2; cases q2
theorem vF {t : Expr} {body orelse : List Stmt} {pos : Pos} {b : Bool} (S : St prog w B s₀ Own₀ M₀ names env Own M ρ μ s) (ht : Tv prog w A s.heap t env b)
  (k : ∀ s',St prog w B s₀ Own₀ M₀ names env Own M ρ μ s' → wpAny (model prog w) A (execs (if b then body else orelse) env) (fun f s₂ => match f with | .next => wpAny (model prog w) A (execs rest env) Q E s₂ | f => Q f s₂) E s') :
  wpAny (model prog w) A (execs (.If t body orelse pos :: rest) env) Q E s:=by
 refine wpAny_execs_cons (wpAny_If (ht s E _ (zR.refl _) fun s₁ k₁ => ?_))
 have:=k s₁ (S.step k₁)
 cases b <;> exact this
theorem vp {t : Expr} {body : List Stmt} {pos : Pos} (S : St prog w B s₀ Own₀ M₀ names env Own M ρ μ s) (ht : Tv prog w A s.heap t env false)
  (k : ∀ s',St prog w B s₀ Own₀ M₀ names env Own M ρ μ s' → wpAny (model prog w) A (execs rest env) Q E s') : wpAny (model prog w) A (execs (.If t body [] pos :: rest) env) Q E s :=
 vF (b:=false) S ht fun s' S' => zD (k s' S')
theorem xF {e : Expr} {pos : Pos} {d : D} (S : St prog w B s₀ Own₀ M₀ names env Own M ρ μ s) (hv : Ev prog w A s.heap e env (PS prog w M d))
  (k : ∀ v s',St prog w B s₀ Own₀ M₀ names env Own M ρ μ s' → Rp prog w s'.heap M v d → Q (.ret v) s') : wpAny (model prog w) A (execs (.Return (some e) pos :: rest) env) Q E s :=
 wpAny_execs_cons (wpAny_Return_some (hv s E _ (zR.refl _) fun v s₁ k₁ r => k v s₁ (S.step k₁) r))
noncomputable def Qr (prog : Program) (w : World) (B : Heap) (s₁ : Shared) (names : zJ) (env : Env) (Own M' : Addr → Prop) {σ : Type} (ρ' : σ → List (Str × RV)) (μ' : σ → List (Addr × D)) (P : σ → Prop) (PB : Flow → σ → Heap → Prop) (f : Flow) (s₂ : Shared) : Prop :=
 ∃ c Own' M'',St prog w B s₁ Own M' names env Own' M'' (ρ' c) (μ' c) s₂ ∧ (match f with | .next | .cont => P c | f => PB f c s₂.heap)
theorem St.ended {M' : Addr → Prop} {s₁ : Shared} {ρ' : List (Str × RV)} {μ' : List (Addr × D)} {ρ₁ : List (Str × RV)} {μ₁ : List (Addr × D)} (S : St prog w B s₀ Own₀ M₀ names env Own M ρ₁ μ₁ s₁) (T : St prog w B s₁ Own M names env Own M' ρ' μ' s) {wr : List Addr} (hwr : ∀ a ∈ wr,M' a ∧ ¬ M a ∧ ¬ Own a ∧ s₁.heap.get? a = none ∧ B.get? a = none ∧ (∀ d,(a,d) ∉ μ') ∧ (∀ v,¬ s.heap.IsCell a v))
   {h' : Heap} {tk : Nat} (hk : ∀ a o,a ∉ wr → s.heap.get? a = some o → h'.get? a = some o) :
   St prog w B s₀ Own₀ M₀ names env Own M ρ' μ' { s with heap:=h',toks:=tk }:=by
 have S':=S.back T
 have hto : ∀ b o,¬ M' b → s.heap.get? b = some o → h'.get? b = some o ∧ ¬ M b:=fun b o m e => ⟨hk b o (fun x => m (hwr b x).1) e,fun x => m (T.more b x)⟩
 obtain ⟨h,t,e⟩:=S'.same
 refine ⟨⟨h',tk,by rw [e]⟩,⟨fun b o q => hk b o (fun x => by rw [(hwr b x).2.2.2.2.1] at q; cases q) (S'.e.base b o q),S'.e.n,fun b m => ?_,fun y c q => ?_,fun y u hm => ?_,fun b d hm => ?_⟩,S'.f.to fun b o x q => hk b o (fun y => (hwr b y).2.2.1 (S'.fr b x)) q,fun b o n q => hk b o (fun x => ?_) (S'.keep b o n q),S'.own,S'.own₀,S'.fresh,S'.more,S'.fr,S'.base,S'.sep,S'.nodup⟩
 · obtain ⟨o,q⟩:=S'.e.old b m; exact ⟨o,hk b o (fun x => (hwr b x).2.1 m) q⟩
 · obtain ⟨u,o,q2,q3⟩:=S'.e.celled y c q
   exact ⟨u,o,hk c o (fun x => (hwr c x).2.2.2.2.2.2 u ⟨o,q2,q3⟩) q2,q3⟩
 · obtain ⟨v,hv,hr⟩:=T.e.vars y u hm
   refine ⟨v, ?_,hr.to hto⟩
   rcases hv with ⟨x1,m,n,e1⟩ | ⟨x1,c,e1,q⟩
   · exact .inl ⟨x1,m,n.at' fun o e => hk _ o (fun x => (hwr _ x).2.2.1 (S'.fr _ (.inl rfl))) e,e1⟩
   · obtain ⟨o,q2,q3⟩:=q
     exact .inr ⟨x1,c,e1,o,hk c o (fun x => (hwr c x).2.2.2.2.2.2 _ ⟨o,q2,q3⟩) q2,q3⟩
 · exact (T.e.mem b d hm).to (fun o q => hk b o (fun x => (hwr b x).2.2.2.2.2.1 d hm) q) hto
 · have:=S.keep b o n q
   rw [(hwr b x).2.2.2.1] at this; cases this
theorem xa {α σ : Type} {target iter : Expr} {body orelse : List Stmt} {pos : Pos} {dsrc : D} (S : St prog w B s₀ Own₀ M₀ names env Own M ρ μ s) (R : Rm A 0)
   (hv : Ev prog w A s.heap iter env (PS prog w M dsrc)) (ys : List α) (g : α → D) (hs : zb dsrc (ys.map g)) (bs : α → List (Str × RV)) (hasg : ∀ y ∈ ys,wD prog w names target (g y) (bs y)) (hfs : ∀ x,foldedSetIterable iter env x = pure x)
   (ρ' : σ → List (Str × RV)) (μ' : σ → List (Addr × D)) (P : Nat → σ → Prop) (PB : Flow → σ → Heap → Prop) (c₀ : σ) (hp : P 0 c₀) (hρ : ∀ x r,(x,r) ∈ ρ' c₀ → (x,r) ∈ ρ) (hμ : μ' c₀ = μ)
   (hoff : ∀ c y,((ρ' c).all fun p => !((bs y).map (·.1)).contains p.1) = true)
   (turn : ∀ i y c M' s₁,ys[i]? = some y → P i c → (∀ a,M a → M' a) → St prog w B s₁ Own M' names env Own M' (bs y ++ ρ' c) (μ' c) s₁ →
     wpAny (model prog w) A (execs body env) (Qr prog w B s₁ names env Own M' ρ' μ' (P (i + 1)) PB) (fun _ _ => False) s₁)
   (done : ∀ c s',P ys.length c → St prog w B s₀ Own₀ M₀ names env Own M (ρ' c) (μ' c) s' → wpAny (model prog w) A (execs orelse env) (fun f s₂ => match f with | .next => wpAny (model prog w) A (execs rest env) Q E s₂ | f => Q f s₂) (fun _ _ => False) s')
   (exit : ∀ f c s',PB f c s'.heap → St prog w B s₀ Own₀ M₀ names env Own M (ρ' c) (μ' c) s' → match f with | .brk => wpAny (model prog w) A (execs rest env) Q E s' | .ret v => Q (.ret v) s' | _ => True) :
   wpAny (model prog w) A (execs (.For target iter body orelse pos :: rest) env) Q E s:=by
 refine wpAny_execs_cons (wpAny_For (hv s E _ (zR.refl _) fun xv s₁ k₁ rx => ?_) hfs)
 have S₁:=S.step k₁
 refine q9 R.hh hs (M:=M) (.inl rx) fun I fp wr Pi Si s₂ src stay k₂ => ?_
 have W:=(S₁.anchor.sub hρ).widen k₂ (M':=fun a => M a ∨ a ∈ wr) (fun a m => .inl m) (fun a m => m.imp id fun q => ⟨src.fresh a q,src.live 0 _ src.st a q⟩)
 have hwr : ∀ a ∈ wr,¬ M a:=fun a q m => by obtain ⟨o,e⟩:=S₁.e.old a m; rw [src.fresh a q] at e; cases e
 have hfpO : ∀ b ∈ fp,¬ Own b:=fun b hb o => (stay b hb).elim (fun x => hwr b x (S.own b o)) fun e => Rp.ref_not (e ▸ rx) (S.own b o)
 have hlen : (ys.map g).length = ys.length:=List.length_map ..
 refine codeAny_forLoop_any (fun k s' => ∃ i c,k = ys.length + 1 - i ∧ i ≤ ys.length ∧ P i c ∧ Si i s'.heap ∧ St prog w B s₁ Own M names env Own (fun a => M a ∨ a ∈ wr) (ρ' c) (μ' c) s') ?_ (ys.length + 1)
   ⟨0,c₀,rfl,Nat.zero_le _,hp,src.st,by rw [hμ]; exact W⟩
 rintro k s' ⟨i,c,rfl,hi,hP,hSi,T⟩
 have hoffs : ∀ a ∈ wr,(M a ∨ a ∈ wr) ∧ ¬ Own a ∧ s₁.heap.get? a = none ∧ B.get? a = none ∧ (∀ d,(a,d) ∉ μ' c) ∧ (∀ v,¬ s'.heap.IsCell a v):=by
   intro a q
   have ea:=src.one a q
   obtain ⟨oI,hoI,⟨fs,hfs⟩,hcl⟩:=src.own i _ hSi
   rw [← ea] at hoI
   refine ⟨.inr q,fun o => hwr a q (S.own a o),src.fresh a q, ?_,fun d m => ?_,fun v z => ?_⟩
   · cases e : B.get? a with
     | none => rfl
     | some o => have:=S₁.e.base a o e; rw [src.fresh a q] at this; cases this
   · have:=T.e.mem a d m
     cases this with
     | list p _ => obtain ⟨n,p⟩:=p; rw [hoI] at p; cases p; cases hfs
     | dct p _ _ _ => obtain ⟨o2,_,_,p,_,p2,_⟩:=p; rw [hoI] at p; cases p; rw [hfs] at p2; cases p2
     | tab p _ => rw [hoI] at p; cases p; obtain ⟨_,hcl,_⟩:=hcl; cases hcl
     | itr p => rw [hoI] at p; cases p; obtain ⟨_,hcl,_,hcn⟩:=hcl; cases hcl; exact hcn rfl
   · obtain ⟨o2,p,p2⟩:=z
     rw [hoI] at p; cases p; rw [hfs] at p2; cases p2
 by_cases hlt : i < ys.length
 · refine src.W.item i _ _ _ (by rw [hlen]; exact hlt) hSi fun v h₁ tk₁ hPv hst₁ hk₁ => ?_
   obtain ⟨d,hd,rd⟩:=src.item i v hPv
   have hy : ys[i]? = some ys[i]:=by simp [hlt]
   have hmy : ys[i] ∈ ys:=List.getElem_mem hlt
   have hd' : d = g ys[i]:=by rw [List.getElem?_map,hy] at hd; simpa using hd.symm
   subst hd'
   have T₁:=T.turned (tk:=tk₁) hoffs (fun a o n e => hk₁ a o n e) (src.live _ _ hst₁)
   obtain ⟨oI,hoI,hnI⟩:=src.own _ _ hst₁
   refine vg (o:=oI) hoI hnI ?_
   have rd₁ : Rp prog w h₁ (fun a => M a ∨ a ∈ wr) v (g ys[i]):=by
     refine rd.to fun a o m e => ⟨?_,fun x => ?_⟩
     · have hn : a ∉ wr:=fun x => by rw [src.fresh a x] at e; cases e
       exact hk₁ a o hn (T.keep a o (fun x => m (S.own a x)) e)
     · rcases x with x | x
       · exact m x
       · rw [src.fresh a x] at e; cases e
   refine T₁.anchor.assign R.hh (hasg _ hmy) rd₁ fun s₃ T₃ => ?_
   have e3 : (ρ' c).filter (fun p => !((bs ys[i]).map (·.1)).contains p.1) = ρ' c:=List.filter_eq_self.mpr (List.all_eq_true.mp (hoff c ys[i]))
   rw [e3] at T₃
   have st₃ : Si i s'.heap → Si (i + 1) s₃.heap:=fun _ => src.W.frame _ _ _ hst₁ fun b hb o e => T₃.keep b o (hfpO b hb) e
   refine wpAny_mono (turn i ys[i] c _ s₃ hy hP (fun a m => .inl m) T₃.anchor) (fun f s₄ hf => ?_) fun _ _ x => x.elim
   obtain ⟨c',Own',M'',T₄,hc'⟩:=hf
   have T₅:=T₁.back (T₃.back T₄)
   have st₅ : Si (i + 1) s₄.heap:=src.W.frame _ _ _ (st₃ hSi) fun b hb o e => T₄.keep b o (hfpO b hb) e
   have T₆ : St prog w B s₀ Own₀ M₀ names env Own M (ρ' c') (μ' c') s₄:=S₁.back T₅
   cases f with
   | next => exact ⟨ys.length + 1 - (i + 1),by omega,i + 1,c',rfl,hlt,hc',st₅,T₅⟩
   | cont => exact ⟨ys.length + 1 - (i + 1),by omega,i + 1,c',rfl,hlt,hc',st₅,T₅⟩
   | brk => exact exit .brk c' s₄ hc' T₆
   | ret v => exact exit (.ret v) c' s₄ hc' T₆
 · have hin : i = ys.length:=by omega
   subst hin
   refine src.W.done _ _ _ (by rw [hlen]; exact hSi) fun h₁ tk₁ hk₁ => ?_
   refine wpAny_mono (done c _ hP (S₁.ended T (wr:=wr) (fun a q => ⟨(hoffs a q).1,hwr a q,(hoffs a q).2⟩) fun a o n e => hk₁ a o n e)) (fun f s₂ hf => ?_) fun _ _ x => x.elim
   cases f <;> exact hf
theorem jF {σ : Type} {test : Expr} {body : List Stmt} {pos : Pos} (S : St prog w B s₀ Own₀ M₀ names env Own M ρ μ s) (R : Rm A 0)
  (ρ' : σ → List (Str × RV)) (μ' : σ → List (Addr × D)) (P : σ → Prop) (m : σ → Nat) (t : σ → Bool) (PB : Flow → σ → Heap → Prop) (c₀ : σ) (hp : P c₀) (hρ : ∀ x r,(x,r) ∈ ρ' c₀ → (x,r) ∈ ρ) (hμ : μ' c₀ = μ)
  (htest : ∀ c s₁,P c → St prog w B s₁ Own M names env Own M (ρ' c) (μ' c) s₁ → Tv prog w A s₁.heap test env (t c))
  (turn : ∀ c s₁,P c → t c = true → St prog w B s₁ Own M names env Own M (ρ' c) (μ' c) s₁ →
   wpAny (model prog w) A (execs body env) (Qr prog w B s₁ names env Own M ρ' μ' (fun c' => P c' ∧ m c' < m c) PB) (fun _ _ => False) s₁)
  (done : ∀ c s',P c → t c = false → St prog w B s₀ Own₀ M₀ names env Own M (ρ' c) (μ' c) s' → wpAny (model prog w) A (execs rest env) Q E s')
  (exit : ∀ f c s',PB f c s'.heap → St prog w B s₀ Own₀ M₀ names env Own M (ρ' c) (μ' c) s' → match f with | .brk => wpAny (model prog w) A (execs rest env) Q E s' | .ret v => Q (.ret v) s' | _ => True) :
  wpAny (model prog w) A (execs (.While test body [] pos :: rest) env) Q E s:=by
 refine wpAny_execs_cons (wpAny_While ?_)
 refine codeAny_whileLoop (fun k s' => ∃ c,m c = k ∧ P c ∧ St prog w B s₀ Own₀ M₀ names env Own M (ρ' c) (μ' c) s') ?_ (m c₀) ⟨c₀,rfl,hp,by rw [hμ]; exact S.sub hρ⟩
 rintro k s' ⟨c,rfl,hP,T⟩
 refine htest c s' hP T.anchor s' _ _ (zR.refl _) fun s₂ k₂ => ?_
 have T₂:=T.step k₂
 cases ht : t c with
 | false =>
  simp only [Bool.false_eq_true,if_false]
  exact wpAny_execs_nil (done c s₂ hP ht T₂)
 | true =>
  simp only [if_true]
  refine wpAny_mono (turn c s₂ hP ht T₂.anchor) (fun f s₄ hf => ?_) fun _ _ x => x.elim
  obtain ⟨c',Own',M'',T₄,hc'⟩:=hf
  have T₅:=T₂.back T₄
  cases f with
  | next => exact ⟨m c',hc'.2,c',rfl,hc'.1,T₅⟩
  | cont => exact ⟨m c',hc'.2,c',rfl,hc'.1,T₅⟩
  | brk => exact exit .brk c' s₄ hc' T₅
  | ret v => exact exit (.ret v) c' s₄ hc' T₅
end
section
variable {prog : Program} {w : World} {A : Around} {B : Heap} {s : Shared} {Own₀ M₀ : Addr → Prop}
theorem Kx {fd : FuncData} {f : Addr} {binds : List (Str × Value)} (O : jx fd) (base : zR B s.heap) (hold : ∀ a,M₀ a → ∃ o,s.heap.get? a = some o) (hown : ∀ a,Own₀ a → M₀ a ∧ B.get? a = none) (hclo : ∀ x c,fd.closure.lookup x = some c → ∃ v,s.heap.IsCell c v)
   (ρ₀ : List (Str × RV)) (hρ : ∀ x r,(x,r) ∈ ρ₀ → (∃ v,(x,v) ∈ binds ∧ zm prog w s.heap M₀ v r) ∨ (fd.scope.names.lookup x = some .free ∧ (x == ("__classdict__" : Str)) = false ∧ ∃ c v,fd.closure.lookup x = some c ∧ s.heap.IsCell c (some v) ∧ zm prog w s.heap M₀ v r))
   (μ₀ : List (Addr × D)) (hμ : ∀ a d,(a,d) ∈ μ₀ → zc prog w s.heap M₀ a d) (hnd : (μ₀.map (·.1)).Nodup) {h' : Heap} {tk : Nat} (F : yu fd.scope.names (zW fd s.heap.objs.size f) h') (hb : ∀ x v,(x,v) ∈ binds → yG (zW fd s.heap.objs.size f) h' x v) (kx : zR s.heap h') (fresh : ∀ a,zO fd.scope.names (zW fd s.heap.objs.size f) a → s.heap.get? a = none) :
   St prog w B s Own₀ M₀ fd.scope.names (zW fd s.heap.objs.size f) (fun a => Own₀ a ∨ zO fd.scope.names (zW fd s.heap.objs.size f) a) (fun a => M₀ a ∨ zO fd.scope.names (zW fd s.heap.objs.size f) a) ρ₀ μ₀ { s with heap:=h',toks:=tk }:=by
 have N:=X9 O s.heap.objs.size f (fun x c e => by obtain ⟨v,o,q,_⟩:=hclo x c e; exact Heap.lt_size q)
 have hto : ∀ a o,¬ M₀ a → s.heap.get? a = some o → h'.get? a = some o ∧ ¬ (M₀ a ∨ zO fd.scope.names (zW fd s.heap.objs.size f) a):=fun a o m e => ⟨kx a o e,fun x => x.elim m fun z => by rw [fresh a z] at e; cases e⟩
 refine ⟨⟨h',tk,rfl⟩,⟨base.trans kx,N,fun a m => ?_,fun x c e => ?_,fun x r hm => ?_,fun a d hm => (hμ a d hm).to (fun o e => kx a o e) hto⟩,F,fun a o _ e => kx a o e,fun a z => z.imp (fun q => (hown a q).1) id,fun a z => .inl z,fun a z => z.imp id (fresh a),fun a m => .inl m,fun a z => .inr z,fun a z => ?_,fun a d hm z => ?_,hnd⟩
 · rcases m with m | m
   · obtain ⟨o,e⟩:=hold a m; exact ⟨o,kx a o e⟩
   · exact F.has m
 · have e : (cellsFrom (s.heap.objs.size + 1) fd.scope.names fd.closure).lookup x = some c:=e
   by_cases hx : fd.scope.names.lookup x = some .cell
   · exact F.cell x c hx e
   · rw [zj,List.lookup_append] at e
     cases q : (cellsFrom (s.heap.objs.size + 1) fd.scope.names []).lookup x with
     | some c' =>
      exfalso
      rcases yJ _ _ _ _ _ (mem_of_lookup q) with h | h
      · exact hx (O.cell x h)
      · cases h
     | none =>
      rw [q] at e
      have e : fd.closure.lookup x = some c:=by simpa using e
      obtain ⟨v,q⟩:=hclo x c e
      exact ⟨v,q.keeps kx⟩
 · rcases hρ x r hm with ⟨v,hv,hr⟩ | ⟨hx,hcd,c,v,e,q,hr⟩
   · exact ⟨v,hb x v hv,hr.to hto⟩
   · refine ⟨v,.inr ⟨.inr ⟨hx,hcd⟩,c, ?_,q.keeps kx⟩,hr.to hto⟩
     show (cellsFrom (s.heap.objs.size + 1) fd.scope.names fd.closure).lookup x = some c
     rw [zj,List.lookup_append]
     cases q2 : (cellsFrom (s.heap.objs.size + 1) fd.scope.names []).lookup x with
     | some c' =>
      exfalso
      rcases yJ _ _ _ _ _ (mem_of_lookup q2) with h | h
      · rw [O.cell x h] at hx; cases hx
      · cases h
     | none => simpa using e
 · rcases z with z | z
   · exact (hown a z).2
   · cases e : B.get? a with
     | none => rfl
     | some o => have:=base a o e; rw [fresh a z] at this; cases this
 · obtain ⟨o,e⟩:=xX (hμ a d hm)
   rw [fresh a z] at e; cases e
theorem ja {fd : FuncData} {f : Addr} {o : Obj} {body : List Stmt} {args : Args} {binds : List (Str × Value)} {k : Nat} {RR : Result → Shared → Prop} (O : jx fd) (R : Rm A (k + 1)) (ho : s.heap.get? f = some o) (hd : o.data = .func fd)
  (hlim : B.NoLimit) (base : zR B s.heap) (hcd : s.heap.CodeRec fd.code fd.qualname) (hbody : fd.body = .stmts body) (hbind : BindsTo s fd args binds) (hn : (binds.map (·.1)).Nodup) (hk : (binds.all fun p => zY fd.scope.names p.1) = true)
  (hold : ∀ a,M₀ a → ∃ o,s.heap.get? a = some o) (hown : ∀ a,Own₀ a → M₀ a ∧ B.get? a = none) (hclo : ∀ x c,fd.closure.lookup x = some c → ∃ v,s.heap.IsCell c v)
  (ρ₀ : List (Str × RV)) (hρ : ∀ x r,(x,r) ∈ ρ₀ → (∃ v,(x,v) ∈ binds ∧ zm prog w s.heap M₀ v r) ∨ (fd.scope.names.lookup x = some .free ∧ (x == ("__classdict__" : Str)) = false ∧ ∃ c v,fd.closure.lookup x = some c ∧ s.heap.IsCell c (some v) ∧ zm prog w s.heap M₀ v r))
  (μ₀ : List (Addr × D)) (hμ : ∀ a d,(a,d) ∈ μ₀ → zc prog w s.heap M₀ a d) (hnd : (μ₀.map (·.1)).Nodup)
  (run : ∀ env Own M s₁,(∃ L,env = zW fd L f) → Rm (A.deeper env) k → (∀ a,Own₀ a → Own a) → (∀ a,M a → M₀ a ∨ s.heap.get? a = none) → St prog w B s Own₀ M₀ fd.scope.names env Own M ρ₀ μ₀ s₁ →
   wpAny (model prog w) (A.deeper env) (execs body env) (fun fl s' => RR (.ok (.ret (match fl with | .ret v => v | _ => .none))) s')
    (fun e s' => wpAny (model prog w) (A.deeper env) (leaving env e) (fun _ s'' => RR (.error e) s'') (fun e' s'' => RR (.error e') s'') s') s₁) :
  codeAny (model prog w) A (.call (.ref f) args) RR s:=by
 refine codeAny_call_function (by have:=R.hd; show A.depth < 1000; omega) ho hd O.co O.gen hbody hcd (hbind _ _ _ _ ?_)
 refine xr O (f:=f) (fun x c e => by obtain ⟨v,o,q,_⟩:=hclo x c e; exact Heap.lt_size q) hn (fun p hp => List.all_eq_true.mp hk p hp) fun h' tk F hb kx hA => ⟨hlim.keeps (base.trans kx),codeAny_func ?_⟩
 have fresh : ∀ a,zO fd.scope.names (zW fd s.heap.objs.size f) a → s.heap.get? a = none:=fun a z => Heap.get?_none_of_le (hA a z)
 exact run _ _ _ _ ⟨_,rfl⟩ (R.deeper _) (fun a o => .inl o) (fun a m => m.imp id (fresh a)) (Kx O base hold hown hclo ρ₀ hρ μ₀ hμ hnd F hb kx fresh)
theorem kG {fd : FuncData} {f : Addr} {o : Obj} {body : List Stmt} {args : Args} {binds : List (Str × Value)} {k : Nat} {RR : Result → Shared → Prop} (O : jx fd) (R : Rm A (k + 1)) (ho : s.heap.get? f = some o) (hd : o.data = .func fd)
  (hlim : B.NoLimit) (base : zR B s.heap) (hcd : s.heap.CodeRec fd.code fd.qualname) (hbody : fd.body = .stmts body) (hbind : BindsTo s fd args binds) (hn : (binds.map (·.1)).Nodup) (hk : (binds.all fun p => zY fd.scope.names p.1) = true)
  (hold : ∀ a,M₀ a → ∃ o,s.heap.get? a = some o) (hown : ∀ a,Own₀ a → M₀ a ∧ B.get? a = none) (hclo : ∀ x c,fd.closure.lookup x = some c → ∃ v,s.heap.IsCell c v)
  (ρ₀ : List (Str × RV)) (hρ : ∀ x r,(x,r) ∈ ρ₀ → (∃ v,(x,v) ∈ binds ∧ zm prog w s.heap M₀ v r) ∨ (fd.scope.names.lookup x = some .free ∧ (x == ("__classdict__" : Str)) = false ∧ ∃ c v,fd.closure.lookup x = some c ∧ s.heap.IsCell c (some v) ∧ zm prog w s.heap M₀ v r))
  (μ₀ : List (Addr × D)) (hμ : ∀ a d,(a,d) ∈ μ₀ → zc prog w s.heap M₀ a d) (hnd : (μ₀.map (·.1)).Nodup)
  (run : ∀ env Own M s₁,Rm (A.deeper env) k → (∀ a,Own₀ a → Own a) → (∀ a,M a → M₀ a ∨ s.heap.get? a = none) → St prog w B s Own₀ M₀ fd.scope.names env Own M ρ₀ μ₀ s₁ →
   wpAny (model prog w) (A.deeper env) (execs body env) (fun fl s' => RR (.ok (.ret (match fl with | .ret v => v | _ => .none))) s')
    (fun e s' => wpAny (model prog w) (A.deeper env) (leaving env e) (fun _ s'' => RR (.error e) s'') (fun e' s'' => RR (.error e') s'') s') s₁) :
  codeAny (model prog w) A (.call (.ref f) args) RR s :=
 ja O R ho hd hlim base hcd hbody hbind hn hk hold hown hclo ρ₀ hρ μ₀ hμ hnd fun env Own M s₁ _ => run env Own M s₁
theorem KL {fd : FuncData} {f : Addr} {o : Obj} {body : Expr} {args : Args} {binds : List (Str × Value)} {k : Nat} {RR : Result → Shared → Prop} (O : jx fd) (R : Rm A (k + 1)) (ho : s.heap.get? f = some o) (hd : o.data = .func fd)
  (hlim : B.NoLimit) (base : zR B s.heap) (hcd : s.heap.CodeRec fd.code fd.qualname) (hbody : fd.body = .expr body) (hbind : BindsTo s fd args binds) (hn : (binds.map (·.1)).Nodup) (hk : (binds.all fun p => zY fd.scope.names p.1) = true)
  (hold : ∀ a,M₀ a → ∃ o,s.heap.get? a = some o) (hown : ∀ a,Own₀ a → M₀ a ∧ B.get? a = none) (hclo : ∀ x c,fd.closure.lookup x = some c → ∃ v,s.heap.IsCell c v)
  (ρ₀ : List (Str × RV)) (hρ : ∀ x r,(x,r) ∈ ρ₀ → (∃ v,(x,v) ∈ binds ∧ zm prog w s.heap M₀ v r) ∨ (fd.scope.names.lookup x = some .free ∧ (x == ("__classdict__" : Str)) = false ∧ ∃ c v,fd.closure.lookup x = some c ∧ s.heap.IsCell c (some v) ∧ zm prog w s.heap M₀ v r))
  (μ₀ : List (Addr × D)) (hμ : ∀ a d,(a,d) ∈ μ₀ → zc prog w s.heap M₀ a d) (hnd : (μ₀.map (·.1)).Nodup)
  (run : ∀ env Own M s₁,(∃ L,env = zW fd L f) → Rm (A.deeper env) k → (∀ a,Own₀ a → Own a) → (∀ a,M a → M₀ a ∨ s.heap.get? a = none) → St prog w B s Own₀ M₀ fd.scope.names env Own M ρ₀ μ₀ s₁ →
   wpAny (model prog w) (A.deeper env) (eval body env) (fun v s' => RR (.ok (.ret v)) s')
    (fun e s' => wpAny (model prog w) (A.deeper env) (leaving env e) (fun _ s'' => RR (.error e) s'') (fun e' s'' => RR (.error e') s'') s') s₁) :
  codeAny (model prog w) A (.call (.ref f) args) RR s:=by
 refine kla_callFunE (by have:=R.hd; show A.depth < 1000; omega) ho hd O.co O.gen hbody hcd (hbind _ _ _ _ ?_)
 refine xr O (f:=f) (fun x c e => by obtain ⟨v,o,q,_⟩:=hclo x c e; exact Heap.lt_size q) hn (fun p hp => List.all_eq_true.mp hk p hp) fun h' tk F hb kx hA => ⟨hlim.keeps (base.trans kx),kla_codeExpr ?_⟩
 have fresh : ∀ a,zO fd.scope.names (zW fd s.heap.objs.size f) a → s.heap.get? a = none:=fun a z => Heap.get?_none_of_le (hA a z)
 exact run _ _ _ _ ⟨_,rfl⟩ (R.deeper _) (fun a o => .inl o) (fun a m => m.imp id (fresh a)) (Kx O base hold hown hclo ρ₀ hρ μ₀ hμ hnd F hb kx fresh)
end
section
variable {prog : Program} {w : World} {A : Around} {B : Heap} {h : Heap} {env : Env} {M : Addr → Prop} {k : Nat}
theorem yk.one_inv {vs : List Value} {d : D} (r : yk prog w h M vs [d]) : ∃ v,vs = [v] ∧ Rd prog w h M v d:=by
 cases r with | cons x r => cases r; exact ⟨_,rfl,x⟩
theorem yk.two_inv {vs : List Value} {d e : D} (r : yk prog w h M vs [d,e]) : ∃ v u,vs = [v,u] ∧ Rd prog w h M v d ∧ Rd prog w h M u e:=by
 cases r with | cons x r => obtain ⟨u,rfl,y⟩:=r.one_inv; exact ⟨_,_,rfl,x,y⟩
theorem yk.three_inv {vs : List Value} {d e f : D} (r : yk prog w h M vs [d,e,f]) : ∃ v u z,vs = [v,u,z] ∧ Rd prog w h M v d ∧ Rd prog w h M u e ∧ Rd prog w h M z f:=by
 cases r with | cons x r => obtain ⟨u,z,rfl,y,q⟩:=r.two_inv; exact ⟨_,_,_,rfl,x,y,q⟩
theorem zH.range1 (n : Int) : zH prog w k B (.type "range") [.int n] (.rng 0 n 1):=by
 intro A M s E Q vs R X old r₀ hQ
 obtain ⟨v,rfl,r⟩:=r₀.one_inv
 obtain ⟨t,rfl⟩:=r.int_inv
 exact call_range_1 (hQ _ _ (zQ s _ _) (.rng (IsRange.new ..) (wv old)))
theorem zH.range2 (a b : Int) : zH prog w k B (.type "range") [.int a,.int b] (.rng a b 1):=by
 intro A M s E Q vs R X old r₀ hQ
 obtain ⟨v,u,rfl,r,q⟩:=r₀.two_inv
 obtain ⟨t,rfl⟩:=r.int_inv
 obtain ⟨t,rfl⟩:=q.int_inv
 exact call_range_2 (hQ _ _ (zQ s _ _) (.rng (IsRange.new ..) (wv old)))
theorem zH.range3 (a b c : Int) (hc : c ≠ 0) (hp : Builtin.divisionGoesByPylong (b - a) c = false) : zH prog w k B (.type "range") [.int a,.int b,.int c] (.rng a b c):=by
 intro A M s E Q vs R X old r₀ hQ
 obtain ⟨v,u,z,rfl,r,q,q2⟩:=r₀.three_inv
 obtain ⟨t,rfl⟩:=r.int_inv
 obtain ⟨t,rfl⟩:=q.int_inv
 obtain ⟨t,rfl⟩:=q2.int_inv
 exact call_range_3 hc (hQ _ _ (zQ s _ _) (.rng (IsRange.new ..) (wv old))) (.inl hp)
theorem zH.lenL (xs : List D) (hx : xs.length ≤ sizeLine) : zH prog w k B (.builtin "len") [.list xs] (.int xs.length):=by
 intro A M s E Q vs R X old r₀ hQ
 obtain ⟨v,rfl,r⟩:=r₀.one_inv
 obtain ⟨a,us,rfl,p,q⟩:=r.list_inv
 have e:=q.length
 refine len_list p.isList (by rw [sizeLine_eq] at hx; simp; omega) ?_
 rw [show (us.toArray.size : Int) = xs.length by simp [e]]
 exact hQ _ _ (zI s _) (.int _ _)
theorem zH.lenS (x : Str) (hx : x.length ≤ sizeLine) : zH prog w k B (.builtin "len") [.str x] (.int x.length):=by
 intro A M s E Q vs R X old r₀ hQ
 obtain ⟨v,rfl,r⟩:=r₀.one_inv
 obtain ⟨t,rfl⟩:=r.str_inv
 exact P.len_str (by rw [sizeLine_eq] at hx; omega) (hQ _ _ (zI s _) (.int _ _))
noncomputable def jY : D → Int
 | .int i => i
 | .bool b => if b = true then 1 else 0
 | _ => 0
noncomputable def Y3 : D → Bool
 | .int _ | .bool _ => true
 | _ => false
theorem Za (f : Nat → Int) : ∀ n,preSum f n = ((List.range n).map f).sum
 | 0 => rfl
 | n + 1 => by rw [preSum,Za f n,List.range_succ,List.map_append,List.sum_append]; simp
theorem V9 (xs : List Int) : ((List.range xs.length).map fun i => xs.getD i 0).sum = xs.sum:=by
 induction xs with
 | nil => rfl
 | cons x xs ih =>
  rw [List.length_cons,List.range_succ_eq_map,List.map_cons,List.map_map,List.sum_cons,List.sum_cons]
  simp only [List.getD_cons_zero]
  rw [← ih]
  rfl
theorem zH.sum (xs : List D) (hx : xs.all Y3 = true) : zH prog w (k + 1) B (.builtin "sum") [.list xs] (.int (xs.map jY).sum):=by
 intro A M s E Q vs R X old r₀ hQ
 obtain ⟨v,rfl,r⟩:=r₀.one_inv
 refine call_sum_walkAnyB (q9 R.in1.hh (.list xs) r fun I fp wr P St s₂ src stay k₂ => ?_)
 refine ⟨I,fp,wr,_,xs.length,P,_,fun i => (xs.map jY).getD i 0,rfl,src.W.toS,src.st,src.lo,fun i v hv => ?_,fun s' t' hm => ?_⟩
 · obtain ⟨d,hd,rd⟩:=src.item i v hv
   have hn:=List.all_eq_true.mp hx d (List.mem_of_getElem? hd)
   have e : (xs.map jY).getD i 0 = jY d:=by simp [List.getD_eq_getElem?_getD,hd]
   show NumOf ((xs.map jY).getD i 0) v
   rw [e]
   cases rd with
   | int i t => exact .inl ⟨t,rfl⟩
   | bool b => exact .inr ⟨b,rfl,rfl⟩
   | _ => simp [Y3] at hn
 · have e : preSum (fun i => (xs.map jY).getD i 0) xs.length = (xs.map jY).sum:=by
    rw [Za]
    have:=V9 (xs.map jY)
    rwa [List.length_map] at this
   rw [e]
   obtain ⟨h₂,tk₂,rfl,kk₂⟩:=k₂
   refine hQ _ s' ⟨s'.heap,s'.toks, ?_,fun a o e => hm.heap a o (fun x => by rw [src.fresh a x] at e; cases e) (kk₂ a o e)⟩ (.int _ _)
   obtain ⟨hh,gg,dd,tt,oo⟩:=s'
   have h1 : gg = _:=hm.gens
   have h2 : dd = _:=hm.drawn
   have h3 : oo = _:=hm.os
   subst h1 h2 h3
   rfl
theorem zh (slice : Expr) (o i : Value) : ∃ ops,subscripted slice false o i = operate ops (getItem o i):=by
 cases slice with
 | Slice _ _ t _ => cases t <;> exact ⟨_,rfl⟩
 | _ => exact ⟨_,rfl⟩
theorem Ev.item {value slice : Expr} {pos : Pos} {xs : List D} {i : Int} {d : D}
  (hv : Ev prog w A h value env (PR prog w M (.list xs))) (hi : Ev prog w A h slice env (PR prog w M (.int i))) (h0 : 0 ≤ i) (h1 : i < 2 ^ 63) (hd : xs[i.toNat]? = some d) :
  Ev prog w A h (.Subscript value slice pos) env (PS prog w M d):=by
 intro s E Q k hQ
 refine Subscript_ (hv s E _ k fun o s₁ k₁ ro => hi s₁ E _ (k.trans (ke k₁)) fun iv s₂ k₂ ri => ?_)
 obtain ⟨t,rfl⟩:=ri.int_inv
 obtain ⟨a,vs,rfl,p,q⟩:=(ro.ext (ke k₂)).list_inv
 obtain ⟨v,hv,rv⟩:=q.get hd
 obtain ⟨ops,hs⟩:=zh slice (.ref a) (.int i t)
 exact tail_any p.isList.typeIs slot_list_getitem.lookup (wpAny_getItem_list p.isList h0 h1 (by simpa using hv) (hQ v s₂ (zA k₁ k₂) rv)) hs
theorem Ev.itemT {value slice : Expr} {pos : Pos} {xs : List D} {i : Int} {j : Nat} {d : D}
  (hv : Ev prog w A h value env (PR prog w M (.tup xs))) (hi : Ev prog w A h slice env (PR prog w M (.int i))) (h0 : -(2 ^ 63) ≤ i) (h1 : i < 2 ^ 63) (hj : seqIndex? i xs.length = some j) (hd : xs[j]? = some d) :
  Ev prog w A h (.Subscript value slice pos) env (PS prog w M d):=by
 intro s E Q k hQ
 refine Subscript_ (hv s E _ k fun o s₁ k₁ ro => hi s₁ E _ (k.trans (ke k₁)) fun iv s₂ k₂ ri => ?_)
 obtain ⟨t,rfl⟩:=ri.int_inv
 obtain ⟨a,vs,rfl,⟨n,p⟩,q⟩:=(ro.ext (ke k₂)).tup_inv
 obtain ⟨v,hv,rv⟩:=q.get hd
 have ht : IsTup s₂.heap a vs.toArray:=⟨_,p,rfl,n,rfl⟩
 obtain ⟨ops,hs⟩:=zh slice (.ref a) (.int i t)
 exact tail_any ht.typeIs slot_tuple_getitem.lookup (getItem_tuple ht h0 h1 (by simpa [q.length] using hj) (by simpa using hv) (hQ v s₂ (zA k₁ k₂) rv)) hs
noncomputable def zd (prog : Program) (w : World) (A : Around) (h : Heap) (M : Addr → Prop) (e : Option Expr) (env : Env) (p : Option Int) : Prop :=
 ∀ (s : Shared) (E : Value → Shared → Prop) (Q : Value → Shared → Prop),zR h s.heap → (∀ v s',Keeps s s' → IsPart v p → Q v s') → wpAny (model prog w) A (evalPart e env) Q E s
theorem zd.none : zd prog w A h M none env none:=fun s E Q k hQ => by rw [evalPart_none]; exact wpAny_pure (hQ _ s (zF s) .none)
theorem zd.some {e : Expr} {i : Int} (x : Ev prog w A h e env (PR prog w M (.int i))) : zd prog w A h M (some e) env (some i):=fun s E Q k hQ => by
 rw [evalPart_some]
 exact x s E Q k fun v s' k' r => by obtain ⟨t,rfl⟩:=r.int_inv; exact hQ _ s' k' (.int _ _)
noncomputable def zl {α : Type} (xs : List α) (lo hi st : Option Int) : List α :=
 (sliceRange (sliceBounds lo hi st xs.length).1 (sliceBounds lo hi st xs.length).2.1 (sliceBounds lo hi st xs.length).2.2).filterMap (xs[·]?)
theorem zE.pick {vs : List Value} {ds : List D} (r : zE prog w h M vs ds) : ∀ is : List Nat,zE prog w h M (is.filterMap (vs[·]?)) (is.filterMap (ds[·]?))
 | [] => .nil
 | i :: is => by
  have ih:=zE.pick r is
  rw [List.filterMap_cons,List.filterMap_cons]
  cases e : ds[i]? with
  | none =>
   have : vs[i]? = none:=by
    have:=r.length
    rw [List.getElem?_eq_none_iff] at e ⊢
    omega
   simp only [this]; exact ih
  | some d =>
   obtain ⟨v,hv,rv⟩:=r.get e
   simp only [hv]
   exact .cons rv ih
theorem Ev.slice {B : Heap} {names : zJ} {ρ : List (Str × RV)} {μ : List (Addr × D)} (S : En prog w B names env h M ρ μ) {value : Expr} {lower upper step : Option Expr} {p pos : Pos} {xs : List D} {lo hi st : Option Int}
   (hv : Ev prog w A h value env (PR prog w M (.list xs))) (hl : zd prog w A h M lower env lo) (hu : zd prog w A h M upper env hi) (hs : zd prog w A h M step env st) (h0 : st ≠ some 0) (hsz : xs.length ≤ sizeLine) :
   Ev prog w A h (.Subscript value (.Slice lower upper step p) pos) env (PS prog w M (.list (zl xs lo hi st))):=by
 intro s E Q k hQ
 refine Subscript_ (hv s E _ k fun o s₁ k₁ ro => wpAny_Slice ?_)
 refine hl s₁ E _ (k.trans (ke k₁)) fun vl s₂ k₂ pl => ?_
 refine hu s₂ E _ (k.trans ((ke k₁).trans (ke k₂))) fun vu s₃ k₃ pu => ?_
 refine hs s₃ E _ (k.trans ((ke k₁).trans ((ke k₂).trans (ke k₃)))) fun vst s₄ k₄ pst => ?_
 obtain ⟨a,vs,rfl,pl',q⟩:=(((ro.ext (ke k₂)).ext (ke k₃)).ext (ke k₄)).list_inv
 have kk:=zA k₁ (zA k₂ (zA k₃ k₄))
 have pl2 : (s₄.heap.push { cls:=.type "slice",data:=.fields #[vl,vu,vst] }).PlainList a vs.toArray:=pl'.at fun o e => Heap.get?_push_of_some _ e
 obtain ⟨ops,hso⟩:=zh (.Slice lower upper step p) (.ref a) (.ref s₄.heap.objs.size)
 refine tail_any (s:={ s₄ with heap:=s₄.heap.push { cls:=.type "slice",data:=.fields #[vl,vu,vst] } }) pl2.isList.typeIs slot_list_getitem.lookup
   (wpAny_getItem_list_slice pl2.isList (Heap.IsSliceOf.new ..) pl pu pst h0 (hQ _ _ (zA kk (zA (zQ s₄ { cls:=.type "slice",data:=.fields #[vl,vu,vst] } s₄.toks) (zQ _ _ s₄.toks))) ?_) (by rw [List.size_toArray,q.length]; exact hsz)) hso
 have e : slicePick vs.toArray lo hi st = (zl vs lo hi st).toArray:=by
   unfold slicePick zl
   simp
 rw [e]
 refine wK (h:=s₄.heap.push { cls:=.type "slice",data:=.fields #[vl,vu,vst] }) ?_ 0 (fun m => ?_)
 · unfold zl
   rw [q.length]
   exact (q.pick _).ext fun _ _ e => Heap.get?_push_of_some _ e
 · obtain ⟨o,e⟩:=S.old _ m
   have:=Heap.get?_push_of_some ({ cls:=.type "slice",data:=.fields #[vl,vu,vst] } : Obj) (ke kk _ _ (k _ _ e))
   exact absurd (Heap.lt_size this) (Nat.lt_irrefl _)
end
theorem QK {vs : List Value} (h : vs.length = 1) : ∃ a,vs = [a]:=by
 cases vs with
 | nil => cases h
 | cons a vs => cases vs with
  | nil => exact ⟨a,rfl⟩
  | cons _ _ => cases h
theorem zAa {vs : List Value} (h : vs.length = 2) : ∃ a b,vs = [a,b]:=by
 cases vs with
 | nil => cases h
 | cons a vs =>
  obtain ⟨b,rfl⟩:=QK (Nat.succ.inj h)
  exact ⟨a,b,rfl⟩
structure zi (B : Heap) (mg : Str → Option Value) (name : Str) (d : Stmt) (f : Addr) (fd : FuncData) : Prop where
 g : mg name = some (.ref f)
 get : ∃ o,B.get? f = some o ∧ o.data = .func fd
 code : B.CodeRec fd.code fd.qualname
 ok : jx fd
 args : fd.params = wx d
 body : fd.body = .stmts (zC d)
 scope : fd.scope = zZ d
 clo : fd.closure = []
theorem zi.keepy {B : Heap} {mg} {name : Str} {d : Stmt} {f : Addr} {fd : FuncData} (H : zi B mg name d f fd) : Zf B (.ref f):=by
 obtain ⟨o,e,q⟩:=H.get
 exact .inr ⟨f,o,fd,rfl,e,q⟩
section
variable {prog : Program} {w : World} {A : Around} {B : Heap} {h : Heap} {env : Env} {M : Addr → Prop} {k : Nat}
theorem yL.mulIB (a : Int) (b : Bool) : yL prog w .Mult (.int a) (.bool b) (.int (a * if b = true then 1 else 0)):=by
 intro A M s E Q x y _ rx ry hQ
 obtain ⟨t,rfl⟩:=rx.int_inv; obtain rfl:=ry.bool_inv
 exact IntBool.mul_int_bool (hQ _ _ (zI s _) (.int _ _))
noncomputable def je : D → Bool
 | .none | .bool _ | .int _ | .str _ | .bytes _ | .typ _ => true
 | _ => false
theorem Jg {M' : Addr → Prop} {v : Value} {d : D} (r : Rd prog w h M v d) (f : je d = true) : Rp prog w h M' v d:=by
 rcases r with r | ⟨a,rfl,c⟩
 · cases r <;> first | (exfalso; simp [je] at f; done) | constructor
 · cases c <;> simp [je] at f
theorem Xe {M' : Addr → Prop} {vs : List Value} {ds : List D} (r : yk prog w h M vs ds) (f : (ds.all je) = true) : zE prog w h M' vs ds:=by
 induction r with
 | nil => exact .nil
 | cons x _ ih =>
  rw [List.all_cons,Bool.and_eq_true] at f
  exact .cons (Jg x f.1) (ih f.2)
theorem zE.rd {vs : List Value} {ds : List D} (r : zE prog w h M vs ds) : yk prog w h M vs ds:=by
 induction vs generalizing ds with
 | nil => cases r; exact .nil
 | cons v vs ih => cases r with | cons x r => exact .cons (.inl x) (ih r)
noncomputable def xP (prog : Program) (w : World) (B : Heap) (s₀ : Shared) (Own₀ M₀ : Addr → Prop) (names : zJ) (env : Env) (r : D) (fl : Flow) (s' : Shared) : Prop :=
 ∃ v Own' M' ρ' μ',fl = .ret v ∧ St prog w B s₀ Own₀ M₀ names env Own' M' ρ' μ' s' ∧ Rp prog w s'.heap M' v r
noncomputable def jV (prog : Program) (w : World) (k : Nat) (B : Heap) (d : Stmt) (xs : List Str) (ds : List D) (r : D) : Prop :=
 ∀ A s M₀ env Own M s₁,Rm A k → zR B s.heap → St prog w B s (fun _ => False) M₀ (zZ d).names env Own M (xs.zip (ds.map RV.dat)) [] s₁ →
  wpAny (model prog w) A (execs (zC d) env) (xP prog w B s (fun _ => False) M₀ (zZ d).names env r) (fun _ _ => False) s₁
theorem Qh {mg mb : Str → Option Value} (G : Gl B mg mb) {name : Str} {d : Stmt} {f : Addr} {fd : FuncData} (H : zi B mg name d f fd) {xs : List Str} {ds : List D} {r : D}
   (hb : ∀ vs : List Value,vs.length = xs.length → ∀ s,BindsTo s fd ⟨vs,[]⟩ (xs.zip vs)) (hl : xs.length = ds.length) (hn : xs.Nodup) (hx : (xs.all fun x => zY (zZ d).names x) = true)
   (run : jV prog w k B d xs ds r) {A : Around} {M₀ : Addr → Prop} {s : Shared} {E : Value → Shared → Prop} {Q : Value → Shared → Prop} {vs : List Value} (R : Rm A (k + 1)) (X : zR B s.heap) (old : ∀ a,M₀ a → ∃ o,s.heap.get? a = some o)
   (rs : zE prog w s.heap M₀ vs ds) (hQ : ∀ v s',Keeps s s' → Rp prog w s'.heap M₀ v r → Q v s') : wpAny (model prog w) A (call (.ref f) vs) Q E s:=by
 obtain ⟨o,ho,hd⟩:=H.get
 have hlen : vs.length = xs.length:=rs.length.trans hl.symm
 have hzip : (xs.zip vs).map (·.1) = xs:=by rw [List.map_fst_zip]; omega
 refine wpAny_call (kG (M₀:=M₀) (Own₀:=fun _ => False) (μ₀:=[]) (ρ₀:=xs.zip (ds.map RV.dat)) H.ok R (X f o ho) hd G.lim X (by obtain ⟨c,oc,us,t,e1,e2,e3,e4⟩:=H.code; exact ⟨c,oc,us,t,e1,X _ _ e2,e3,e4⟩) H.body (hb vs hlen s) (by rw [hzip]; exact hn) ?_ old (fun _ x => x.elim) (fun x c e => by rw [H.clo] at e; cases e) ?_ (fun _ _ m => by cases m) List.nodup_nil ?_)
 · rw [H.scope]
   refine List.all_eq_true.mpr fun p hp => List.all_eq_true.mp hx p.1 ?_
   rw [← hzip]; exact List.mem_map_of_mem hp
 · intro x z hm
   obtain ⟨i,hi,e⟩:=List.getElem_of_mem hm
   simp only [List.getElem_zip,List.getElem_map,Prod.mk.injEq] at e
   obtain ⟨e1,e2⟩:=e
   have hi' : i < xs.length ∧ i < ds.length:=by simp at hi; omega
   obtain ⟨v,hv,rv⟩:=rs.get (i:=i) (d:=ds[i]) (by simp [hi'.2])
   refine .inl ⟨v, ?_,by rw [← e2]; exact rv⟩
   have : (xs.zip vs)[i]? = some (x,v):=by
    rw [List.getElem?_zip_eq_some]
    exact ⟨by simp [hi'.1,e1],hv⟩
   exact List.mem_of_getElem? this
 · intro env Own M s₁ R' _ _ S
   rw [H.scope] at S
   refine wpAny_mono (run _ s M₀ env Own M s₁ R' X S) (fun fl s' hf => ?_) fun _ _ x => x.elim
   obtain ⟨v,Own',M',ρ',μ',rfl,S',rv⟩:=hf
   obtain ⟨h',tk,e⟩:=S'.same
   exact hQ v s' ⟨h',tk,e,fun a o q => by have:=S'.keep a o (fun x => x) q; rw [e] at this; exact this⟩ (rv.less S'.more)
theorem zH.of_def {mg mb : Str → Option Value} (G : Gl B mg mb) {name : Str} {d : Stmt} {f : Addr} {fd : FuncData} (H : zi B mg name d f fd) (xs : List Str) {ds : List D} {r : D}
  (hb : ∀ vs : List Value,vs.length = xs.length → ∀ s,BindsTo s fd ⟨vs,[]⟩ (xs.zip vs)) (hl : xs.length = ds.length) (hn : xs.Nodup) (hx : (xs.all fun x => zY (zZ d).names x) = true)
  (hf : (ds.all je) = true) (run : jV prog w k B d xs ds r) : zH prog w (k + 1) B (.ref f) ds r:=by
 intro A M s E Q vs R X old rs hQ
 exact Qh G H hb hl hn hx run R X old (Xe rs hf) hQ
end
section
variable {prog : Program} {w : World} {A : Around} {B : Heap} {s₀ s : Shared} {Own₀ M₀ Own M : Addr → Prop} {names : zJ} {env : Env} {ρ : List (Str × RV)} {μ : List (Addr × D)}
 {E : Value → Shared → Prop} {Q : Flow → Shared → Prop} {rest : List Stmt}
theorem St.effect (S : St prog w B s₀ Own₀ M₀ names env Own M ρ μ s) {wr : List Addr} {μ' : List (Addr × D)} {h' : Heap} {tk : Nat}
   (hwr : ∀ a ∈ wr,Own a ∧ ∃ d d',(a,d) ∈ μ ∧ zc prog w h' M a d') (hk : ∀ a o,a ∉ wr → s.heap.get? a = some o → h'.get? a = some o)
   (hm : ∀ a d,(a,d) ∈ μ' → (a ∉ wr ∧ (a,d) ∈ μ) ∨ (a ∈ wr ∧ zc prog w h' M a d)) (hd : μ'.map (·.1) = μ.map (·.1)) :
   St prog w B s₀ Own₀ M₀ names env Own M ρ μ' { s with heap:=h',toks:=tk }:=by
 have hmw : ∀ a,¬ M a → a ∉ wr:=fun a m x => m (S.own a (hwr a x).1)
 have hmv : ∀ b o,¬ M b → s.heap.get? b = some o → h'.get? b = some o ∧ ¬ M b:=fun b o m e => ⟨hk b o (hmw b m) e,m⟩
 have hsep : ∀ a ∈ wr,¬ zO names env a:=fun a x => by obtain ⟨_,d,_,m,_⟩:=hwr a x; exact S.sep a d m
 have hcel : ∀ c v,s.heap.IsCell c v → c ∉ wr:=fun c v q x => by obtain ⟨_,d,_,m,_⟩:=hwr c x; exact zn (S.e.mem c d m) q
 obtain ⟨h,t,e⟩:=S.same
 refine ⟨⟨h',tk,by rw [e]⟩,⟨fun b o q => ?_,S.e.n,fun b m => ?_,fun y c q => ?_,fun y u hm => ?_,fun b d hmm => ?_⟩,S.f.to fun b o x q => hk b o (fun z => hsep b z x) q,fun b o n q => ?_,S.own,S.own₀,S.fresh,S.more,S.fr,S.base,fun b d hmm => ?_,by rw [hd]; exact S.nodup⟩
 · refine hk b o (fun z => ?_) (S.e.base b o q)
   rw [S.base b (hwr b z).1] at q; cases q
 · by_cases hz : b ∈ wr
   · obtain ⟨_,_,d',_,c⟩:=hwr b hz; exact xX c
   · obtain ⟨o,q⟩:=S.e.old b m; exact ⟨o,hk b o hz q⟩
 · obtain ⟨u,o,q2,q3⟩:=S.e.celled y c q
   exact ⟨u,o,hk c o (hcel c u ⟨o,q2,q3⟩) q2,q3⟩
 · obtain ⟨v,hv,hr⟩:=S.e.vars y u hm
   refine ⟨v, ?_,hr.to hmv⟩
   rcases hv with ⟨x1,m,n,e1⟩ | ⟨x1,c,e1,o,q2,q3⟩
   · refine .inl ⟨x1,m,n.at' fun o e => hk _ o (fun z => ?_) e,e1⟩
     obtain ⟨_,d,_,mm,_⟩:=hwr _ z
     exact S.sep _ _ mm (.inl rfl)
   · exact .inr ⟨x1,c,e1,o,hk c o (hcel c _ ⟨o,q2,q3⟩) q2,q3⟩
 · rcases hm b d hmm with ⟨n,q⟩ | ⟨_,c⟩
   · exact (S.e.mem b d q).to (fun o q => hk b o n q) hmv
   · exact c
 · refine hk b o (fun z => ?_) (S.keep b o n q)
   rcases S.fresh b (hwr b z).1 with y | y
   · exact n y
   · rw [q] at y; cases y
 · rcases hm b d hmm with ⟨n,q⟩ | ⟨x,c⟩
   · exact S.sep b d q
   · exact hsep b x
theorem St.effect1 {a : Addr} {d d' : D} {pre post : List (Addr × D)} (S : St prog w B s₀ Own₀ M₀ names env Own M ρ μ s) (hμ : μ = pre ++ (a,d) :: post) (ho : Own a) {h' : Heap} {tk : Nat}
   (hk : ∀ b o,b ≠ a → s.heap.get? b = some o → h'.get? b = some o) (hc : zc prog w h' M a d') :
   St prog w B s₀ Own₀ M₀ names env Own M ρ (pre ++ (a,d') :: post) { s with heap:=h',toks:=tk }:=by
 have hnd:=S.nodup
 rw [hμ] at hnd
 simp only [List.map_append,List.map_cons] at hnd
 have hpre : ∀ p ∈ pre,p.1 ≠ a:=fun p hp q => by
   rw [List.nodup_append] at hnd
   exact hnd.2.2 _ (List.mem_map_of_mem hp) _ (.head _) q
 have hpost : ∀ p ∈ post,p.1 ≠ a:=fun p hp q => by
   rw [List.nodup_append] at hnd
   have:=hnd.2.1
   rw [List.nodup_cons] at this
   exact this.1 (q ▸ List.mem_map_of_mem hp)
 refine S.effect (wr:=[a]) (fun b hb => ?_) (fun b o hb => hk b o (by simpa using hb)) (fun b x hm => ?_) (by rw [hμ]; simp)
 · cases List.mem_singleton.mp hb; exact ⟨ho,d,d',by rw [hμ]; simp,hc⟩
 · rcases List.mem_append.mp hm with hm | hm
   · exact .inl ⟨by simpa using hpre _ hm,by rw [hμ]; exact List.mem_append_left _ hm⟩
   · rcases List.mem_cons.mp hm with e | hm
     · cases e; exact .inr ⟨.head _,hc⟩
     · exact .inl ⟨by simpa using hpost _ hm,by rw [hμ]; exact List.mem_append_right _ (.tail _ hm)⟩
noncomputable def Jw : D → Option String
 | .str _ => some "str"
 | .list _ => some "list"
 | .dct _ _ => some "dict"
 | .int _ => some "int"
 | _ => none
theorem vE {d : D} {T : String} (hT : Jw d = some T) {v : Value} (r : Rd prog w s.heap M v d) : s.TypeIs v T ∧ ∀ a,v = .ref a → ∃ ob,s.heap.get? a = some ob ∧ ob.dict = none:=by
 cases d with
 | str x => obtain ⟨t,rfl⟩:=r.str_inv; cases hT; exact ⟨rfl,fun a e => by cases e⟩
 | int x => obtain ⟨t,rfl⟩:=r.int_inv; cases hT; exact ⟨rfl,fun a e => by cases e⟩
 | list xs => obtain ⟨a,vs,rfl,⟨n,p⟩,_⟩:=r.list_inv; cases hT; exact ⟨⟨_,p,rfl⟩,fun b e => by cases e; exact ⟨_,p,rfl⟩⟩
 | dct ks xs => obtain ⟨a,vs,rfl,p,_⟩:=r.dct_inv; cases hT; obtain ⟨o,es,ep,ho,hc,hd,hr⟩:=p; exact ⟨⟨_,ho,hc.1⟩,fun b e => by cases e; exact ⟨_,ho,hc.2.1⟩⟩
 | _ => cases hT
theorem yw {id : String} {first : List Value} {h : Heap} {es : List Expr} {ds : List D} {pos : Pos} (x : xJ prog w A h env M es ds) {s : Shared} {Q : Value → Shared → Prop} (k : zR h s.heap)
  (hQ : ∀ vs s',Keeps s s' → yk prog w s'.heap M vs ds → wpAny (model prog w) A (call (.builtin id) (first ++ vs)) Q E s') : wpAny (model prog w) A (callWith pos (.builtin id) first (backTo pos (starEach es env)) []) Q E s :=
 PySem.Calls.callWith_builtin x.noStar (ZN x k fun vs s₁ k₁ rs => hQ vs s₁ k₁ rs)
theorem xJ.few {h : Heap} {es : List Expr} {ds : List D} {pos : Pos} (x : xJ prog w A h env M es ds) : (backTo pos (starEach es env)).all (fun x => !x.1) = true:=by
 have:=x.noStar (pos:=pos)
 rw [List.all_eq_true]
 intro q hq
 cases e : q.1 with
 | false => rfl
 | true =>
  have : (backTo pos (starEach es env)).any (·.1) = true:=List.any_eq_true.mpr ⟨q,hq,e⟩
  simp_all
theorem Ev.meth {h : Heap} {k : Nat} (S : En prog w B names env h M ρ μ) (R : Rm A k) {o : Expr} {name : Str} {apos pos : Pos} {es : List Expr} {T id : String} {dr d : D} {ds : List D}
   (ho : Ev prog w A h o env (PR prog w M dr)) (hT : Jw dr = some T) (pa : PlainAttrs T) (slot : Slot T name id) (hty : typeOf (.builtin id) = pure (.type "method_descriptor"))
   (hx : xJ prog w A h env M es ds) (hbase : attributeBase o name env (eval o env) = eval o env) (hfew : decide (es.length + 0 + 0 < 30) = true) (hline : (apos.endLine == pos.line) = true)
   (hc : zH prog w k B (.builtin id) (dr :: ds) d) : Ev prog w A h (.Call (.Attribute o name apos) es [] pos) env (PS prog w M d):=by
 intro s E Q kx hQ
 refine PySem.wpAny_Call_method hbase ?_ hline pa slot hty (ho s E _ kx fun ov s₁ k₁ r => ⟨(vE hT r).1,(vE hT r).2, ?_⟩)
 · rw [hx.few]; exact hfew
 · refine yw hx (kx.trans (ke k₁)) fun vs s₂ k₂ rs => ?_
   have X:=kx.trans ((ke k₁).trans (ke k₂))
   refine hc A M s₂ E Q _ R (S.base.trans X) (fun a m => ?_) (.cons (r.ext (ke k₂)) rs) fun v s' k₃ r => hQ v s' (zA k₁ (zA k₂ k₃)) r
   obtain ⟨o,e⟩:=S.old a m
   exact ⟨o,X _ _ e⟩
noncomputable def xI (prog : Program) (w : World) (k : Nat) (f : Value) (d : D) (ds : List D) (d' r : D) : Prop :=
 ∀ (A : Around) (M : Addr → Prop) (s : Shared) (E : Value → Shared → Prop) (Q : Value → Shared → Prop) (a : Addr) (vs : List Value),Rm A k → M a → zc prog w s.heap M a d → zE prog w s.heap M vs ds →
  (∀ v s',Yb [a] s s' → zc prog w s'.heap M a d' → Rp prog w s'.heap M v r → Q v s') → wpAny (model prog w) A (call f (.ref a :: vs)) Q E s
theorem YC (its : Array Value) (n : Nat) (f : Array Value → Array Value) : ∃ m,Obj.mapSeq f { cls:=.type "list",data:=.seq its n } = { cls:=.type "list",data:=.seq (f its) m }:=⟨_,by simp only [Obj.mapSeq]; rfl⟩
theorem wG {a : Addr} {s : Shared} {h' : Heap} {tk : Nat} (x : Heap.SameBut a s.heap h') : Yb [a] s { s with heap:=h',toks:=tk }:=⟨h',tk,rfl,fun b o n e => (x.2 b (by simpa using n)).trans e⟩
theorem yX {a : Addr} {h h' : Heap} {M : Addr → Prop} (x : Heap.SameBut a h h') (m : M a) : ∀ b o,¬ M b → h.get? b = some o → h'.get? b = some o ∧ ¬ M b:=fun b o n e => ⟨(x.2 b fun q => n (q ▸ m)).trans e,n⟩
theorem xI.append {k : Nat} (xs : List D) (d : D) (hs : xs.length ≤ sizeLine) : xI prog w k (.builtin "list.append") (.list xs) [d] (.list (xs ++ [d])) .none:=by
 intro A M s E Q a vs R m c rs hQ
 obtain ⟨us,p,q⟩:=c.list_inv
 cases rs with | cons r0 rs => cases rs with | nil =>
 refine wpAny_list_append_plain p (fun h' p' sb => hQ _ _ (wG sb) (.list (vs:=us ++ [_]) (by simpa using p') ((zE.to (yX sb m) q).append (.cons (Rp.to (yX sb m) r0) .nil))) .none) ?_
 rw [List.size_toArray,q.length]; exact hs
theorem xg {h : Heap} {a : Addr} {its : Array Value} {n : Nat} {f : Array Value → Array Value} (e : h.get? a = some { cls:=.type "list",data:=.seq its n }) : (h.update a (Obj.mapSeq f)).PlainList a (f its):=by
 obtain ⟨m,q⟩:=YC its n f
 exact ⟨m,by rw [Heap.get?_update_self _ e (by rw [q]; rfl),q]⟩
theorem xI.insert {k : Nat} (xs : List D) (i : Nat) (I : Int) (d : D) (hI : I = (i : Int)) (hi : i ≤ xs.length) (hs : xs.length ≤ sizeLine) : xI prog w k (.builtin "list.insert") (.list xs) [.int I,d] (.list (xs.take i ++ d :: xs.drop i)) .none:=by
 intro A M s E Q a vs R m c rs hQ
 obtain ⟨us,⟨n,p⟩,q⟩:=c.list_inv
 cases rs with | cons r0 rs => cases rs with | cons r1 rs => cases rs with | @nil =>
 rename_i v0 v1
 obtain ⟨t,rfl⟩:=r0.int_inv
 have hf : ¬(!Builtin.List.listFitsIndex I) = true:=by
   have : sizeLine < 4611686018427387904:=by rw [sizeLine_eq]; decide
   have : i < 4611686018427387904:=by omega
   simp only [Builtin.List.listFitsIndex,Bool.not_eq_true',Bool.and_eq_false_imp,decide_eq_true_eq,decide_eq_false_iff_not]
   omega
 refine call_meets F.slot_list_insert ⟨_,p,rfl⟩ F.entry_list_insert (F.args_list_insert_3 (.ref a) (.int I t) v1) (AutoSeq1.list_insert_list_int_val_1 a us.toArray n I t v1 hf (by rw [List.size_toArray,q.length]; exact hs)) ⟨p, ?_⟩
 have sb : Heap.SameBut a s.heap (s.heap.update a (Obj.mapSeq fun xs => have k:=if I < 0 then (I + (xs.size : Int)).toNat else min I.toNat xs.size; (xs.extract 0 k).push v1 ++ xs.extract k)):=Heap.SameBut.update ..
 refine hQ _ _ (wG sb) ?_ .none
 have:=xg (f:=fun xs => have k:=if I < 0 then (I + (xs.size : Int)).toNat else min I.toNat xs.size; (xs.extract 0 k).push v1 ++ xs.extract k) p
 refine .list (vs:=us.take i ++ v1 :: us.drop i) ?_ ?_
 · have hl : us.length = xs.length:=q.length
   have e : (fun xs : Array Value => have k:=if I < 0 then (I + (xs.size : Int)).toNat else min I.toNat xs.size; (xs.extract 0 k).push v1 ++ xs.extract k) us.toArray = (us.take i ++ v1 :: us.drop i).toArray:=by
    have h0 : ¬ (I < 0):=by omega
    have h1 : I.toNat = i:=by omega
    simp only [h0,if_false,h1,List.size_toArray]
    rw [Nat.min_eq_left (by omega)]
    apply Array.ext'
    simp
    rw [List.take_of_length_le (by simp)]
   exact e ▸ this
 · have u:=yX sb m
   exact ((zE.to u q).take i).append (.cons (Rp.to u r1) ((zE.to u q).drop i))
theorem xI.clear {k : Nat} (xs : List D) (hs : xs.length ≤ sizeLine) : xI prog w k (.builtin "list.clear") (.list xs) [] (.list []) .none:=by
 intro A M s E Q a vs R m c rs hQ
 obtain ⟨us,⟨n,p⟩,q⟩:=c.list_inv
 cases rs with | nil =>
 refine call_meets F.slot_list_clear ⟨_,p,rfl⟩ F.entry_list_clear (F.args_list_clear_1 _) (AutoSeq1.list_clear_list_0 a us.toArray n (by rw [List.size_toArray,q.length]; exact hs)) ⟨p, ?_⟩
 exact hQ _ _ (wG (Heap.SameBut.update ..)) (.list (vs:=[]) (xg (f:=fun _ => #[]) p) .nil) .none
theorem xI.pop {k : Nat} (xs : List D) (d : D) (hs : xs.length < sizeLine) : xI prog w k (.builtin "list.pop") (.list (xs ++ [d])) [] (.list xs) d:=by
 intro A M s E Q a vs R m c rs hQ
 obtain ⟨us,⟨n,p⟩,q⟩:=c.list_inv
 cases rs with | nil =>
 have hl : us.length = xs.length + 1:=by rw [q.length]; simp
 obtain ⟨v,hv,rv⟩:=q.get (i:=xs.length) (d:=d) (by simp)
 refine call_meets F.slot_list_pop ⟨_,p,rfl⟩ F.entry_list_pop (F.args_list_pop_1 _) (MeetsSeq.list_pop_last a us.toArray n v (by rw [List.size_toArray,hl]; simpa using hv) (by rw [List.size_toArray,hl]; omega)) ⟨p, ?_⟩
 have sb : Heap.SameBut a s.heap (s.heap.update a (Obj.mapSeq fun xs => xs.eraseIdxIfInBounds (us.toArray.size - 1))):=Heap.SameBut.update ..
 have u:=yX sb m
 refine hQ _ _ (wG sb) ?_ (Rp.to u rv)
 have e:=xg (f:=fun xs => xs.eraseIdxIfInBounds (us.toArray.size - 1)) p
 have e2 : us.toArray.eraseIdxIfInBounds (us.toArray.size - 1) = (us.take xs.length).toArray:=by
  apply Array.ext'
  simp only [Array.eraseIdxIfInBounds,List.size_toArray,hl]
  simp only [Nat.add_sub_cancel,show xs.length < xs.length + 1 by omega,dite_true]
  simp [List.eraseIdx_eq_take_drop_succ,← hl]
 rw [e2] at e
 exact .list e (by have:=(zE.to u q).take xs.length; simpa using this)
theorem ZU.rd {h : Heap} {es : List Expr} {ds : List D} (x : ZU prog w A h env M es ds) : xJ prog w A h env M es ds:=by
 induction x with
 | nil => exact .nil
 | cons hv _ hs ih => exact .cons (hv.mono fun _ _ r => .inl r) ih hs
theorem wX {h : Heap} {f : Value} {es : List Expr} {ds : List D} {pos : Pos} (x : ZU prog w A h env M es ds) {s : Shared} {Q : Args → Shared → Prop} (k : zR h s.heap)
  (hQ : ∀ vs s',Keeps s s' → zE prog w s'.heap M vs ds → Q ⟨vs,[]⟩ s') : wpAny (model prog w) A (evalArgs f true (backTo pos (starEach es env)) []) Q E s:=by
 have key:=wJ (pos:=pos) x s E (fun vs s' => Q ⟨vs,[]⟩ s') k hQ
 cases x with
 | nil => exact evalArgs_nil3 (hQ [] s (zF s) .nil)
 | cons hv _ hs =>
  rw [hs] at key ⊢
  exact evalArgs_plain key
theorem Qg {k : Nat} (S : St prog w B s₀ Own₀ M₀ names env Own M ρ μ s) (R : Rm A k) {x : Str} {xp apos pos : Pos} {name : Str} {T id : String} {es : List Expr} {a : Addr} {d d' r : D} {ds : List D} {pre post : List (Addr × D)}
   (hm : (x,RV.adr a) ∈ ρ) (hdb : (x == ("__debug__" : Str)) = false) (hμ : μ = pre ++ (a,d) :: post) (ho : Own a) (hT : Jw d = some T) (pa : PlainAttrs T) (slot : Slot T name id) (hty : typeOf (.builtin id) = pure (.type "method_descriptor"))
   (hx : ZU prog w A s.heap env M es ds) (hfew : decide (es.length + 0 + 0 < 30) = true) (hline : (apos.endLine == pos.line) = true) (hc : xI prog w k (.builtin id) d ds d' r) {Q : Value → Shared → Prop}
   (hQ : ∀ v s',St prog w B s₀ Own₀ M₀ names env Own M ρ (pre ++ (a,d') :: post) s' → Rp prog w s'.heap M v r → Q v s') : wpAny (model prog w) A (eval (.Call (.Attribute (.Name x xp) name apos) es [] pos) env) Q E s:=by
 have hc0:=S.e.mem a d (by rw [hμ]; simp)
 refine PySem.wpAny_Call_method (by rfl) ?_ hline pa slot hty (Ev.var S.e hm hdb s E _ (zR.refl _) fun ov s₁ k₁ r => ?_)
 · rw [hx.rd.few]; exact hfew
 cases r
 have rr : Rd prog w s₁.heap M (.ref a) d:=.inr ⟨a,rfl,hc0.ext (ke k₁)⟩
 refine ⟨(vE hT rr).1,(vE hT rr).2, ?_⟩
 refine PySem.Calls.callWith_builtin hx.rd.noStar ?_
 refine wX hx (ke k₁) fun vs s₂ k₂ rs => ?_
 · have S₂:=S.step (zA k₁ k₂)
   refine hc A M s₂ E Q a vs R (S.own a ho) (hc0.ext ((ke k₁).trans (ke k₂))) rs fun v s' ef c' rv => hQ v s' ?_ rv
   obtain ⟨h',tk,rfl,kk⟩:=ef
   exact S₂.effect1 hμ ho (fun b o n e => kk b o (by simpa using n) e) c'
noncomputable def jK (prog : Program) (w : World) (A : Around) (h : Heap) (e : Expr) (env : Env) (M : Addr → Prop) (d : D) : Prop :=
 ∀ (s : Shared) (E : Value → Shared → Prop) (Q : Value → Shared → Prop),zR h s.heap → (∀ a s',Keeps s s' → s.heap.get? a = none → zc prog w s'.heap (fun b => M b ∨ b = a) a d → Q (.ref a) s') → wpAny (model prog w) A (eval e env) Q E s
theorem yj {s s₁ : Shared} (k : Keeps s s₁) {a : Addr} (n : s₁.heap.get? a = none) : s.heap.get? a = none:=by
 cases e : s.heap.get? a with
 | none => rfl
 | some o => rw [ke k a o e] at n; cases n
theorem jK.list {h : Heap} {es : List Expr} {ds : List D} {p : Pos} (x : ZU prog w A h env M es ds) (hl : ds.length ≤ sizeLine) : jK prog w A h (.List es p) env M (.list ds):=by
 intro s E Q k hQ
 refine List_ (wJ x s E _ k fun vs s₁ k₁ rs => ?_)
 refine wpAny_newObj_type (hQ _ _ (zA k₁ (zQ s₁ _ _)) (yj k₁ (zS _)) (.list (vs:=vs) ⟨0,Heap.get?_push_size _ rfl⟩ (zE.to (fun a o m e => ⟨Heap.get?_push_of_some _ e,fun z => z.elim m fun q => ?_⟩) rs))) (by show vs.toArray.size ≤ sizeLine; rw [List.size_toArray,rs.length]; exact hl)
 rw [q,zS] at e; cases e
theorem St.fresh_not (S : St prog w B s₀ Own₀ M₀ names env Own M ρ μ s) {a : Addr} (n : s.heap.get? a = none) : ¬ M a:=fun m => by obtain ⟨o,e⟩:=S.e.old a m; rw [n] at e; cases e
theorem YB (S : St prog w B s₀ Own₀ M₀ names env Own M ρ μ s) {x : Str} {p pos : Pos} {e : Expr} {d : D} (hv : jK prog w A s.heap e env M d) (hx : zY names x = true)
  (hs : swapsWith e (some (.Name x p)) pos.line env = pure false)
  (k : ∀ a s',¬ M a → St prog w B s₀ Own₀ M₀ names env (fun b => Own b ∨ b = a) (fun b => M b ∨ b = a) ((x,.adr a) :: XJ x ρ) ((a,d) :: μ) s' → wpAny (model prog w) A (execs rest env) Q E s') :
  wpAny (model prog w) A (execs (.Assign [.Name x p] e pos :: rest) env) Q E s :=
 wpAny_execs_cons (wpAny_Assign_Name (hv s E _ (zR.refl _) fun a s₁ k₁ n c => (S.mut k₁ n c).store (r:=.adr a) rfl hx fun s' S' => k a s' (S.fresh_not n) S') hs)
theorem vi {k : Nat} (S : St prog w B s₀ Own₀ M₀ names env Own M ρ μ s) (R : Rm A k) {x : Str} {xp apos pos pos2 : Pos} {name : Str} {T id : String} {es : List Expr} {a : Addr} {d d' : D} {ds : List D} {pre post : List (Addr × D)}
  (hm : (x,RV.adr a) ∈ ρ) (hdb : (x == ("__debug__" : Str)) = false) (hμ : μ = pre ++ (a,d) :: post) (ho : Own a) (hT : Jw d = some T) (pa : PlainAttrs T) (slot : Slot T name id) (hty : typeOf (.builtin id) = pure (.type "method_descriptor"))
  (hx : ZU prog w A s.heap env M es ds) (hfew : decide (es.length + 0 + 0 < 30) = true) (hline : (apos.endLine == pos.line) = true) (hc : xI prog w k (.builtin id) d ds d' .none)
  (hQ : ∀ s',St prog w B s₀ Own₀ M₀ names env Own M ρ (pre ++ (a,d') :: post) s' → wpAny (model prog w) A (execs rest env) Q E s') :
  wpAny (model prog w) A (execs (.Expr (.Call (.Attribute (.Name x xp) name apos) es [] pos) pos2 :: rest) env) Q E s:=by
 refine wpAny_execs_cons (wpAny_Expr (Qg S R hm hdb hμ ho hT pa slot hty hx hfew hline hc fun v s' S' r => ?_) (by simp [interactive,S.e.n.fn]) rfl)
 rw [r.none_inv]; exact hQ s' S'
inductive El where
 | dat (d : D)
 | new (d : D)
noncomputable def zAc (prog : Program) (w : World) (A : Around) (B : Heap) (names : zJ) (env : Env) (ρ : List (Str × RV)) (e : Expr) : El → Prop
 | .dat d => ∀ h M μ,En prog w B names env h M ρ μ → Ev prog w A h e env (PS prog w M d)
 | .new d => ∀ h M μ,En prog w B names env h M ρ μ → jK prog w A h e env M d
noncomputable def ZV (P : (Addr → Prop) → (Addr → Prop) → List (Addr × D) → List RV → Prop) : List El → (Addr → Prop) → (Addr → Prop) → List (Addr × D) → List RV → Prop
 | [],O,M,μ,rs => P O M μ rs
 | .dat d :: l,O,M,μ,rs => ZV P l O M μ (rs ++ [.dat d])
 | .new d :: l,O,M,μ,rs => ∀ a,¬ M a → ZV P l (fun b => O b ∨ b = a) (fun b => M b ∨ b = a) ((a,d) :: μ) (rs ++ [.adr a])
inductive XI (prog : Program) (w : World) (A : Around) (B : Heap) (names : zJ) (env : Env) (ρ : List (Str × RV)) : List Expr → List El → Prop
 | nil : XI prog w A B names env ρ [] []
 | cons {e : Expr} {es : List Expr} {d : El} {ds : List El} : zAc prog w A B names env ρ e d → XI prog w A B names env ρ es ds → (∀ rest,starEach (e :: rest) env = (false,eval e env) :: starEach rest env) → XI prog w A B names env ρ (e :: es) (d :: ds)
inductive zP (prog : Program) (w : World) (h : Heap) (M : Addr → Prop) : List Value → List RV → Prop
 | nil : zP prog w h M [] []
 | cons {v : Value} {vs : List Value} {d : RV} {ds : List RV} : zm prog w h M v d → zP prog w h M vs ds → zP prog w h M (v :: vs) (d :: ds)
section
variable {h : Heap} {M : Addr → Prop} {G : List Value → Prop} {vs : List Value} {a b c d : RV}
@[elab_as_elim] theorem zP.use0 (x : zP prog w h M vs []) (k : G []) : G vs:=by cases x; exact k
@[elab_as_elim] theorem zP.useS {l : List RV} (x : zP prog w h M vs (a :: l)) (k : ∀ u us,zm prog w h M u a → zP prog w h M us l → G (u :: us)) : G vs:=by
 cases x with | cons r q => exact k _ _ r q
@[elab_as_elim] theorem zP.use1 (x : zP prog w h M vs [a]) (k : ∀ u,zm prog w h M u a → G [u]) : G vs:=zP.useS x fun u _ r q => zP.use0 (G:=fun us => G (u :: us)) q (k u r)
@[elab_as_elim] theorem zP.use2 (x : zP prog w h M vs [a,b]) (k : ∀ u v,zm prog w h M u a → zm prog w h M v b → G [u,v]) : G vs:=zP.useS x fun u _ r q => zP.use1 (G:=fun us => G (u :: us)) q fun v => k u v r
@[elab_as_elim] theorem zP.use3 (x : zP prog w h M vs [a,b,c]) (k : ∀ u v z,zm prog w h M u a → zm prog w h M v b → zm prog w h M z c → G [u,v,z]) : G vs:=zP.useS x fun u _ r q => zP.use2 (G:=fun us => G (u :: us)) q fun v z => k u v z r
@[elab_as_elim] theorem zP.use4 (x : zP prog w h M vs [a,b,c,d]) (k : ∀ u v z y,zm prog w h M u a → zm prog w h M v b → zm prog w h M z c → zm prog w h M y d → G [u,v,z,y]) : G vs:=zP.useS x fun u _ r q => zP.use3 (G:=fun us => G (u :: us)) q fun v z y => k u v z y r
end
theorem zP.to {h h' : Heap} {M M' : Addr → Prop} (hk : ∀ a o,¬ M a → h.get? a = some o → h'.get? a = some o ∧ ¬ M' a) {vs : List Value} {rs : List RV} (x : zP prog w h M vs rs) : zP prog w h' M' vs rs:=by
 induction x with
 | nil => exact .nil
 | cons a _ ih => exact .cons (a.to hk) ih
theorem zP.ext {h h' : Heap} {M : Addr → Prop} (k : zR h h') {vs : List Value} {rs : List RV} (x : zP prog w h M vs rs) : zP prog w h' M vs rs:=x.to fun a o m e => ⟨k a o e,m⟩
theorem zP.length {h : Heap} {M : Addr → Prop} {vs : List Value} {rs : List RV} (x : zP prog w h M vs rs) : vs.length = rs.length:=by
 induction x with
 | nil => rfl
 | cons _ _ ih => simp [ih]
theorem zP.snoc {h : Heap} {M : Addr → Prop} {vs : List Value} {rs : List RV} (x : zP prog w h M vs rs) {v : Value} {r : RV} (y : zm prog w h M v r) : zP prog w h M (vs ++ [v]) (rs ++ [r]):=by
 induction x with
 | nil => exact .cons y .nil
 | cons a _ ih => exact .cons a ih
theorem zP.rev {h : Heap} {M : Addr → Prop} {vs : List Value} {rs : List RV} (x : zP prog w h M vs rs) : zP prog w h M vs.reverse rs.reverse:=by
 induction x with
 | nil => exact .nil
 | cons a _ ih => simp only [List.reverse_cons]; exact ih.snoc a
theorem Y6 {es : List Expr} {els : List El} {pos : Pos} (x : XI prog w A B names env ρ es els) : ∀ {Own M : Addr → Prop} {μ : List (Addr × D)} {s : Shared} {vs₀ : List Value} {rs₀ : List RV} {P : List Value → Shared → Prop},
  St prog w B s₀ Own₀ M₀ names env Own M ρ μ s → zP prog w s.heap M vs₀ rs₀ →
  ZV (fun O M μ rs => ∀ vs s',St prog w B s₀ Own₀ M₀ names env O M ρ μ s' → zP prog w s'.heap M vs rs → P vs s') els Own M μ rs₀ →
  wpAny (model prog w) A (spliced (backTo pos (starEach es env))) (fun vs s' => P (vs₀ ++ vs) s') E s:=by
 induction x with
 | nil => intro Own M μ s vs₀ rs₀ P S r k; exact spliced_nil (by rw [List.append_nil]; exact k vs₀ s S r)
 | @cons e es d ds hv _ hs ih =>
  intro Own M μ s vs₀ rs₀ P S r k
  rw [hs]
  show wpAny _ _ (spliced ((false,eval e env) :: backTo pos (starEach es env))) _ E s
  cases d with
  | dat d =>
   refine spliced_cons (hv s.heap M μ S.e s E _ (zR.refl _) fun v s₁ k₁ rv => ?_)
   have:=ih (S.step k₁) ((r.ext (ke k₁)).snoc (r:=.dat d) rv) k
   simpa using this
  | new d =>
   refine spliced_cons (hv s.heap M μ S.e s E _ (zR.refl _) fun a s₁ k₁ n c => ?_)
   have:=ih (S.mut k₁ n c) ((r.to (M':=fun b => M b ∨ b = a) fun b o m e => ⟨ke k₁ b o e,fun z => z.elim m fun q => by rw [q,n] at e; cases e⟩).snoc (v:=.ref a) (r:=.adr a) rfl) (k a (S.fresh_not n))
   simpa using this
theorem kM (ps : List (Str × Pos)) : ((assignEach (ps.map fun p => Expr.Name p.1 p.2) env).map (·.2)) = ps.map fun p => assign (.Name p.1 p.2) env:=by
 rw [zw,List.map_map]; rfl
theorem qI {f : Str × Pos → Value → Sem Unit} (hf : ∀ (p : Str × Pos) (v : Value) (s : Shared) (Q : Unit → Shared → Prop),wpAny (model prog w) A (storeName env p.1 v) Q E s → wpAny (model prog w) A (f p v) Q E s) :
  ∀ (ps : List (Str × Pos)) (vs : List Value) (rs : List RV) (Q : Unit → Shared → Prop) (s : Shared) (ρ : List (Str × RV)),(ps.all fun p => zY names p.1) = true → St prog w B s₀ Own₀ M₀ names env Own M ρ μ s → zP prog w s.heap M vs rs → ps.length = rs.length →
  (∀ s',St prog w B s₀ Own₀ M₀ names env Own M (((ps.map (·.1)).zip rs).reverse ++ ρ.filter fun p => !(ps.map (·.1)).contains p.1) μ s' → (ps.map (·.1)).Nodup → Q () s') → (ps.map (·.1)).Nodup →
  wpAny (model prog w) A (assignInOrder (ps.map f) vs) Q E s
 | [],vs,rs,Q,s,ρ,hk,S,r,hl,hQ,hn => by
  cases rs with
  | nil => cases r; exact assignInOrder_nil (hQ s (S.sub fun x r hm => by simpa using hm) hn)
  | cons => cases hl
 | p :: ps,vs,rs,Q,s,ρ,hk,S,r,hl,hQ,hn => by
  cases r with
  | nil => cases hl
  | @cons v vs d rs rv rs' =>
   simp only [List.map_cons] at hn ⊢
   have hn':=hn
   rw [List.nodup_cons] at hn
   simp only [List.all_cons,Bool.and_eq_true] at hk
   refine assignInOrder_cons (hf p v s _ (yD S.e.n S.f (yR hk.1) fun h' tk F' hv hy hh => ?_))
   have S' : St prog w B s₀ Own₀ M₀ names env Own M ((p.1,d) :: XJ p.1 ρ) μ { s with heap:=h',toks:=tk }:=S.written F' (fun a o n e => (hh a n).trans e) fun y u hm => by
     rcases List.mem_cons.mp hm with e2 | hm
     · cases e2; exact ⟨v,hv,rv⟩
     · have hm2:=List.mem_filter.mp hm
       obtain ⟨u',hu,hr'⟩:=S.e.vars y u hm2.1
       exact ⟨u',hy y u' (by simpa using hm2.2) hu,hr'⟩
   have hmo : ∀ a o,¬ M a → s.heap.get? a = some o → h'.get? a = some o ∧ ¬ M a:=fun a o m e => ⟨(hh a fun x => m (S.own a (S.fr a x))).trans e,m⟩
   refine qI hf ps vs rs Q _ _ hk.2 S' (rs'.to hmo) (by simpa using hl) (fun s' S'' _ => hQ s' (S''.sub fun x r hm => ?_) hn') hn.2
   rcases List.mem_append.mp hm with hm | hm
   · rw [List.map_cons,List.zip_cons_cons,List.reverse_cons] at hm
     rcases List.mem_append.mp hm with hm | hm
     · exact List.mem_append_left _ hm
     · cases List.mem_singleton.mp hm
       refine List.mem_append_right _ (List.mem_filter.mpr ⟨.head _,by simpa using hn.1⟩)
   · have hm2:=List.mem_filter.mp hm
     have h3 : (ps.map (·.1)).contains x = false ∧ x ≠ p.1:=by
       have:=hm2.2
       simp only [List.map_cons,List.contains_cons,Bool.not_or,Bool.and_eq_true,Bool.not_eq_true'] at this
       exact ⟨this.2,by simpa using this.1⟩
     exact List.mem_append_right _ (List.mem_filter.mpr ⟨List.mem_cons_of_mem _ (xh hm2.1 (by simpa using h3.2)),by rw [h3.1]; rfl⟩)
theorem qV {α β : Type} : ∀ (xs : List α) (ys : List β),xs.length = ys.length → xs.reverse.zip ys.reverse = (xs.zip ys).reverse
 | [],[],_ => rfl
 | x :: xs,y :: ys,h => by
  simp only [List.reverse_cons,List.zip_cons_cons]
  rw [List.zip_append (by simpa using h),qV xs ys (by simpa using h)]; rfl
 | [],_ :: _,h => by cases h
 | _ :: _,[],h => by cases h
theorem zAs : ∀ (els : List El) {O M : Addr → Prop} {μ : List (Addr × D)} {rs : List RV} {P P' : (Addr → Prop) → (Addr → Prop) → List (Addr × D) → List RV → Prop},(∀ O M μ rs',rs'.length = rs.length + els.length → P O M μ rs' → P' O M μ rs') → ZV P els O M μ rs → ZV P' els O M μ rs:=by
 intro els
 induction els with
 | nil => intro O M μ rs P P' hp c; exact hp O M μ rs (by simp) c
 | cons e els ih =>
  intro O M μ rs P P' hp c
  cases e with
  | dat d => exact ih (fun O M μ rs' hl => hp O M μ rs' (by simp at hl ⊢; omega)) c
  | new d => exact fun a na => ih (fun O M μ rs' hl => hp O M μ rs' (by simp at hl ⊢; omega)) (c a na)
noncomputable abbrev KV (prog : Program) (w : World) (A : Around) (B : Heap) (s₀ : Shared) (Own₀ M₀ : Addr → Prop) (names : zJ) (env : Env) (ρ : List (Str × RV)) (ps : List (Str × Pos)) (rest : List Stmt) (Q : Flow → Shared → Prop) (E : Value → Shared → Prop) (O M : Addr → Prop) (μ : List (Addr × D)) (rs : List RV) : Prop :=
 ∀ s',St prog w B s₀ Own₀ M₀ names env O M (((ps.map (·.1)).zip rs) ++ ρ.filter fun p => !(ps.map (·.1)).contains p.1) μ s' → wpAny (model prog w) A (execs rest env) Q E s'
theorem VF (R : Rm A 0) {elts : List Expr} (ps : List (Str × Pos)) (he : elts = ps.map fun p => Expr.Name p.1 p.2) {k k2 : Nat} {tpos vpos pos : Pos} {es : List Expr} (hn : (ps.map (·.1)).Nodup) (hk : (ps.all fun p => zY names p.1) = true)
   (hw : swappedStores [.Tuple elts k tpos] (.Tuple es k2 vpos) env = pure none ∨ swappedStores [.Tuple elts k tpos] (.Tuple es k2 vpos) env = pure (some (ps.map (·.1))))
   (ev : ∀ (Q' : Value → Shared → Prop),(∀ (O M : Addr → Prop) (μ : List (Addr × D)) (rs : List RV) (vs : List Value) (s₁ : Shared) (t : Addr),rs.length = ps.length → KV prog w A B s₀ Own₀ M₀ names env ρ ps rest Q E O M μ rs →
     St prog w B s₀ Own₀ M₀ names env O M ρ μ s₁ → zP prog w s₁.heap M vs rs → K9 s₁.heap t vs → Q' (.ref t) s₁) → wpAny (model prog w) A (eval (.Tuple es k2 vpos) env) Q' E s) :
   wpAny (model prog w) A (execs (.Assign [.Tuple elts k tpos] (.Tuple es k2 vpos) pos :: rest) env) Q E s:=by
 refine wpAny_execs_cons ?_
 have done : ∀ (O M : Addr → Prop) (μ : List (Addr × D)) (rs : List RV),rs.length = ps.length → KV prog w A B s₀ Own₀ M₀ names env ρ ps rest Q E O M μ rs →
     ∀ (vs : List Value) (s₁ : Shared),St prog w B s₀ Own₀ M₀ names env O M ρ μ s₁ → zP prog w s₁.heap M vs rs → ∀ (E' : Value → Shared → Prop) (j : Unit → Shared → Prop),(∀ s',wpAny (model prog w) A (execs rest env) Q E s' → j () s') →
       (∀ (f : Str × Pos → Value → Sem Unit),(∀ (p : Str × Pos) (v : Value) (s : Shared) (Q : Unit → Shared → Prop),wpAny (model prog w) A (storeName env p.1 v) Q E s → wpAny (model prog w) A (f p v) Q E s) → wpAny (model prog w) A (assignInOrder (ps.map f) vs) j E s₁) ∧
       (∀ (f : Str × Pos → Value → Sem Unit),(∀ (p : Str × Pos) (v : Value) (s : Shared) (Q : Unit → Shared → Prop),wpAny (model prog w) A (storeName env p.1 v) Q E s → wpAny (model prog w) A (f p v) Q E s) → wpAny (model prog w) A (assignInOrder (ps.reverse.map f) vs.reverse) j E s₁):=by
   intro O M μ rs hlr hcont vs s₁ S₁ r E' j hj
   refine ⟨fun f hf => ?_,fun f hf => ?_⟩
   · refine qI hf ps vs rs j s₁ ρ hk S₁ r (by omega) (fun s' S' _ => hj s' (hcont s' (S'.sub fun x r hm => ?_))) hn
     rcases List.mem_append.mp hm with hm | hm
     · exact List.mem_append_left _ (List.mem_reverse.mpr hm)
     · exact List.mem_append_right _ hm
   · refine qI hf ps.reverse vs.reverse rs.reverse j s₁ ρ (by rw [List.all_reverse]; exact hk) S₁ r.rev (by simp; omega) (fun s' S' _ => hj s' (hcont s' (S'.sub fun x r hm => ?_))) (by rw [List.map_reverse]; exact (List.reverse_perm _).nodup_iff.mpr hn)
     rcases List.mem_append.mp hm with hm | hm
     · refine List.mem_append_left _ ?_
       rw [List.map_reverse,qV _ _ (by simp; omega),List.reverse_reverse]; exact hm
     · refine List.mem_append_right _ ?_
       have:=List.mem_filter.mp hm
       refine List.mem_filter.mpr ⟨this.1, ?_⟩
       rw [List.map_reverse]
       have h3:=this.2
       simp only [Bool.not_eq_true',List.contains_eq_mem,List.mem_reverse,decide_eq_false_iff_not] at h3 ⊢
       exact h3
 have hlp : ∀ {h : Heap} {M : Addr → Prop} {vs : List Value} {rs : List RV},zP prog w h M vs rs → rs.length = ps.length → vs.length = ps.length:=fun r hl' => by rw [r.length]; exact hl'
 have ext_but : ∀ {s₁ : Shared} {h' : Heap},Heap.ExtBut s₁.heap.objs.size s₁.heap h' → Keeps s₁ { s₁ with heap:=h' }:=fun {s₁ h'} x => ⟨h',s₁.toks,rfl,ki x (zS _)⟩
 rcases hw with hw | hw
 · refine PyProof.Rows.Assign_Tuple ?_ rfl hw
   refine ev _ fun O M μ rs vs s₁ t hlr hc S₁ r ht => ?_
   subst he
   obtain ⟨n,ht⟩:=ht
   refine assign_Tuple_tuple R.hh ⟨_,ht,rfl,n,rfl⟩ (by rw [zw]; simp [hlp r hlr]) ?_ fun h₁ x₁ => ?_
   · rw [zw,List.findIdx?_eq_none_iff]
     intro q hq
     obtain ⟨z,_,rfl⟩:=List.mem_map.mp hq
     rfl
   · rw [kM]
     exact (done O M μ rs hlr hc vs _ (S₁.step (ext_but x₁)) (r.ext (ke (ext_but x₁))) E _ fun _ x => x).1 _ fun p v s Q hs => wpAny_assign_Name hs
 · refine PyProof.Rows.Assign_Tuple_swapped ?_ rfl hw
   refine ev _ fun O M μ rs vs s₁ t hlr hc S₁ r ht => ?_
   obtain ⟨n,ht⟩:=ht
   have hsz' : (ps.map (·.1)).length = vs.toArray.size:=by rw [List.length_map,List.size_toArray]; exact (hlp r hlr).symm
   rw [hsz']
   refine PyProof.Rows.unpackItems_tuple R.hh ⟨_,ht,rfl,n,rfl⟩ fun h₁ x₁ => ?_
   rw [← List.map_reverse,List.map_map]
   exact (done O M μ rs hlr hc vs _ (S₁.step (ext_but x₁)) (r.ext (ke (ext_but x₁))) E _ fun _ x => x).2 _ fun p v s Q hs => wpAny_bindName hs
theorem jJ (S : St prog w B s₀ Own₀ M₀ names env Own M ρ μ s) (R : Rm A 0) {elts : List Expr} (ps : List (Str × Pos)) (he : elts = ps.map fun p => Expr.Name p.1 p.2) {k k2 : Nat} {tpos vpos pos : Pos} {es : List Expr} {els : List El}
  (hx : XI prog w A B names env ρ es els) (hn : (ps.map (·.1)).Nodup) (hk : (ps.all fun p => zY names p.1) = true) (hl : ps.length = els.length) (hsz : els.length ≤ 100)
  (hw : swappedStores [.Tuple elts k tpos] (.Tuple es k2 vpos) env = pure none ∨ swappedStores [.Tuple elts k tpos] (.Tuple es k2 vpos) env = pure (some (ps.map (·.1))))
  (h : ZV (KV prog w A B s₀ Own₀ M₀ names env ρ ps rest Q E) els Own M μ []) :
  wpAny (model prog w) A (execs (.Assign [.Tuple elts k tpos] (.Tuple es k2 vpos) pos :: rest) env) Q E s:=by
 refine VF (B:=B) (s₀:=s₀) (Own₀:=Own₀) (M₀:=M₀) (ρ:=ρ) R ps he hn hk hw fun Q' hq => Tuple_ ?_
 refine Y6 (E:=E) (pos:=vpos) hx S (vs₀:=[]) (rs₀:=[]) .nil (P:=fun vs s₁ => wpAny (model prog w) A (newObj (.type "tuple") (.seq vs.toArray 0)) Q' E s₁) (zAs els (fun O M μ rs' hl' c => ?_) h)
 intro vs s₁ S₁ r
 have hl' : rs'.length = els.length:=by simpa using hl'
 have hlv : vs.length = els.length:=by rw [r.length,hl']
 exact wpAny_newObj_type (hq O M μ rs' vs _ s₁.heap.objs.size (by omega) c (S₁.step (zQ s₁ _ s₁.toks)) (r.ext fun _ _ e => Heap.get?_push_of_some _ e) ⟨0,Heap.get?_push_size _ rfl⟩) (by show vs.toArray.size ≤ sizeLine; rw [List.size_toArray,hlv,sizeLine_eq]; omega)
theorem St.freeze {Own' M' : Addr → Prop} {a : Addr} {x : Str} {xs : List D} {μ' : List (Addr × D)} (S : St prog w B s₀ Own₀ M₀ names env Own' M' ρ μ s) (hx : (x,.adr a) ∈ ρ) (hμ : (a,.list xs) ∈ μ)
   (hO : ∀ b,Own b ↔ Own' b ∧ b ≠ a) (hM : ∀ b,M b ↔ M' b ∧ b ≠ a) (n₀ : ¬ Own₀ a) (m₀ : ¬ M₀ a) (hs : ∀ p ∈ μ',p ∈ μ) (hd : (μ'.map (·.1)).Nodup) (hna : ∀ d,(a,d) ∉ μ') :
   St prog w B s₀ Own₀ M₀ names env Own M ((x,.dat (.list xs)) :: ρ) μ' s:=by
 have less : ∀ b,M b → M' b:=fun b m => ((hM b).mp m).1
 have na : ¬ M a:=fun m => ((hM a).mp m).2 rfl
 refine ⟨S.same,⟨S.e.base,S.e.n,fun b m => S.e.old b (less b m),S.e.celled,fun y r hm => ?_,fun b d hm => ?_⟩,S.f,S.keep,fun b o => (hM b).mpr ⟨S.own b ((hO b).mp o).1,((hO b).mp o).2⟩,fun b o => (hO b).mpr ⟨S.own₀ b o,fun q => n₀ (q ▸ o)⟩,fun b o => S.fresh b ((hO b).mp o).1,fun b m => (hM b).mpr ⟨S.more b m,fun q => m₀ (q ▸ m)⟩,fun b f => (hO b).mpr ⟨S.fr b f,fun q => S.sep a _ hμ (q ▸ f)⟩,fun b o => S.base b ((hO b).mp o).1,fun b d hm => S.sep b d (hs _ hm),hd⟩
 · rcases List.mem_cons.mp hm with e | hm
   · cases e
     obtain ⟨v,hv,hr⟩:=S.e.vars x _ hx
     refine ⟨v,hv, ?_⟩
     cases hr
     obtain ⟨vs,p,q⟩:=(S.e.mem a _ hμ).list_inv
     exact .list p na (q.less less)
   · obtain ⟨v,hv,hr⟩:=S.e.vars y r hm
     exact ⟨v,hv,hr.to fun b o m e => ⟨e,fun z => m (less b z)⟩⟩
 · exact (S.e.mem b d (hs _ hm)).to (fun _ e => e) fun b o m e => ⟨e,fun z => m (less b z)⟩
theorem zAd {μ : List (Addr × D)} (h : (μ.map (·.1)).Nodup) {i j : Nat} {a b : Addr} {d e : D} (hi : μ[i]? = some (a,d)) (hj : μ[j]? = some (b,e)) (hij : i ≠ j) : a ≠ b:=by
 rintro rfl
 have h1 : (μ.map (·.1))[i]? = some a:=by rw [List.getElem?_map,hi]; rfl
 have h2 : (μ.map (·.1))[j]? = some a:=by rw [List.getElem?_map,hj]; rfl
 exact hij ((List.getElem?_inj (List.getElem?_eq_some_iff.mp h1).1 h).mp (h1.trans h2.symm))
theorem St.ne_of (S : St prog w B s₀ Own₀ M₀ names env Own M ρ μ s) (i j : Nat) {a b : Addr} {d e : D} (hi : μ[i]? = some (a,d)) (hj : μ[j]? = some (b,e)) (hij : i ≠ j) : a ≠ b:=zAd S.nodup hi hj hij
theorem St.freezeAt {Own' M' : Addr → Prop} {a : Addr} {x : Str} {xs : List D} {pre post : List (Addr × D)} (S : St prog w B s₀ Own₀ M₀ names env Own' M' ρ (pre ++ (a,.list xs) :: post) s) (hx : (x,.adr a) ∈ ρ)
   (hO : ∀ b,Own b ↔ Own' b ∧ b ≠ a) (hM : ∀ b,M b ↔ M' b ∧ b ≠ a) (n₀ : ¬ Own₀ a) (m₀ : ¬ M₀ a) : St prog w B s₀ Own₀ M₀ names env Own M ((x,.dat (.list xs)) :: ρ) (pre ++ post) s:=by
 have hnd:=S.nodup
 have hs : (pre ++ post).Sublist (pre ++ (a,.list xs) :: post):=.append_left (List.sublist_cons_self ..) _
 refine S.freeze hx (List.mem_append_right _ (.head _)) hO hM n₀ m₀ (fun p hp => hs.subset hp) (hnd.sublist (hs.map _)) fun d hd => ?_
 rw [List.map_append,List.map_cons,List.nodup_append,List.nodup_cons] at hnd
 rcases List.mem_append.mp hd with h | h
 · exact hnd.2.2 a (List.mem_map.mpr ⟨_,h,rfl⟩) a (.head _) rfl
 · exact hnd.2.1.1 (List.mem_map.mpr ⟨_,h,rfl⟩)
theorem ZB {α β : Type} (c : α → Bool) (f : α → β) (l : List α) (h : (l.filterMap fun x => if c x then some (f x) else none).length = l.length) : (l.filterMap fun x => if c x then some (f x) else none) = l.map f:=by
 induction l with
 | nil => rfl
 | cons x l ih =>
  rw [List.filterMap_cons] at h ⊢
  cases hx : c x
  · rw [hx] at h; exact absurd (h ▸ List.length_filterMap_le _ l) (Nat.not_succ_le_self _)
  · rw [hx] at h; exact congrArg (f x :: ·) (ih (Nat.succ.inj h))
theorem Z0 {α : Type} {c : Bool} {x y r : α} (h : c = false → r = x ∨ r = y) : (if c = true then x else r) = x ∨ (if c = true then x else r) = y:=by
 cases c
 · exact h rfl
 · exact .inl rfl
theorem Kf {α : Type} {c : Bool} {x y r : α} (hc : c = false) (h : r = y) : (if c = true then x else r) = y:=by
 cases hc; exact h
theorem vJ (ps : List (Str × Pos)) {k k2 : Nat} {tpos vpos : Pos} {es : List Expr} (hc : (!es.all (constantsAlone 8) || es.all (foldedForSure 8)) = true) :
   swappedStores [.Tuple (ps.map fun p => Expr.Name p.1 p.2) k tpos] (.Tuple es k2 vpos) env = pure none ∨ swappedStores [.Tuple (ps.map fun p => Expr.Name p.1 p.2) k tpos] (.Tuple es k2 vpos) env = pure (some (ps.map (·.1))):=by
 refine Z0 fun _ => Z0 fun _ => Z0 fun h => Z0 (c:=es.all (foldedForSure 8)) fun h4 => .inr (Kf (c:=es.all (constantsAlone 8)) ?_ (congrArg (fun x => pure (some x)) ?_))
 · rw [h4,Bool.or_false] at hc; exact (Bool.not_eq_true' _).mp hc
 · have h1:=bne_eq_false_iff_eq.mp (Bool.or_eq_false_iff.mp h).1
   rw [List.length_map] at h1
   rw [List.filterMap_map] at h1 ⊢
   exact ZB (fun p : Str × Pos => env.kindOf p.1 == some NameKind.local && p.2.line == _) (fun p => p.1) ps h1
end
section
variable {prog : Program} {w : World} {A : Around} {B : Heap} {s₀ s : Shared} {Own₀ M₀ Own M : Addr → Prop} {names : zJ} {env : Env} {ρ : List (Str × RV)} {μ : List (Addr × D)} {h : Heap}
 {E : Value → Shared → Prop} {Q : Flow → Shared → Prop} {rest : List Stmt}
theorem xu {α : Type} {names : zJ} {ys : List α} {bs : α → List (Str × RV)} (h : ∀ y,((bs y).all fun p => !(names.lookup p.1 == some NameKind.free)) = true) : ∀ y ∈ ys,∀ x r,(x,r) ∈ bs y → names.lookup x ≠ some .free:=by
 intro y _ x r hm e
 have:=List.all_eq_true.mp (h y) _ hm
 rw [e] at this; cases this
theorem Ev.comp1 {α : Type} {scope : Scope} {elt iter : Expr} {x : Str} {xp pos : Pos} {dsrc : D} (S : En prog w B names env h M ρ μ) (R : Rm A 0) (hc : yH names scope = true)
  (hsrc : Ev prog w A h iter env (PR prog w M dsrc)) (ys : List α) (g : α → D) (hs : zb dsrc (ys.map g)) (f : α → D)
  (hx : zY scope.names x = true) (hsz : ys.length ≤ sizeLine) (hfs : ∀ x,foldedSetIterable iter env x = pure x)
  (turn : ∀ y ∈ ys,∀ env' h' M',zR h h' → En prog w B scope.names env' h' M' ((x,.dat (g y)) :: xV scope.names ρ) μ → Ev prog w A h' elt env' (PS prog w M' (f y))) :
  Ev prog w A h (.ListComp elt [⟨.Name x xp,iter,[],0⟩] scope pos) env (PS prog w M (.list (ys.map f))):=by
 refine Ev.compM S R hc hsrc ys g hs (fun y => [(x,.dat (g y))]) f (fun y _ => wD.name hx) (xu fun y => ?_) hsz hfs fun y hy env' h' M' kx hE => turn y hy env' h' M' kx hE
 rcases yR hx with e | e <;> simp [e]
theorem Ev.comp1F {α : Type} {scope : Scope} {elt iter : Expr} {ifs : List Expr} {x : Str} {xp pos : Pos} {dsrc : D} (S : En prog w B names env h M ρ μ) (R : Rm A 0) (hc : yH names scope = true)
  (hsrc : Ev prog w A h iter env (PR prog w M dsrc)) (ys : List α) (g : α → D) (hs : zb dsrc (ys.map g)) (p : α → Bool) (f : α → D)
  (hx : zY scope.names x = true) (hsz : ys.length ≤ sizeLine) (hfs : ∀ x,foldedSetIterable iter env x = pure x)
  (turn : ∀ y ∈ ys,∀ env' h' M',zR h h' → En prog w B scope.names env' h' M' ((x,.dat (g y)) :: xV scope.names ρ) μ → xO prog w A h' ifs env' (p y) ∧ (p y = true → Ev prog w A h' elt env' (PS prog w M' (f y)))) :
  Ev prog w A h (.ListComp elt [⟨.Name x xp,iter,ifs,0⟩] scope pos) env (PS prog w M (.list ((ys.filter p).map f))):=by
 refine Ev.compF S R hc hsrc ys g hs (fun y => [(x,.dat (g y))]) p f (fun y _ => wD.name hx) (xu fun y => ?_) hsz hfs fun y hy env' h' M' kx hE => turn y hy env' h' M' kx hE
 rcases yR hx with e | e <;> simp [e]
theorem zb.same {xs : List D} : zb (.list xs) (xs.map fun d => d):=by rw [List.map_id']; exact .list xs
theorem zb.sameT {xs : List D} : zb (.tup xs) (xs.map fun d => d):=by rw [List.map_id']; exact .tup xs
theorem km {α : Type} {scope : Scope} {elt iter : Expr} {ifs : List Expr} {cpos : Pos} {dsrc : D}
  (S : St prog w B s₀ Own₀ M₀ names env Own M ρ μ s) {x y : Str} {xp yp pos : Pos} (hx : zY names x = true) (R : Rm A 0) (hc : yH names scope = true)
  (hsrc : Ev prog w A s.heap iter env (PR prog w M dsrc)) (ys : List α) (g : α → D) (hs : zb dsrc (ys.map g)) (p : α → Bool) (f : α → D)
  (hy : zY scope.names y = true) (hsz : ys.length ≤ sizeLine) (hfs : ∀ x,foldedSetIterable iter env x = pure x)
  (turn : ∀ z ∈ ys,∀ env' h' M',zR s.heap h' → En prog w B scope.names env' h' M' ((y,.dat (g z)) :: xV scope.names ρ) μ → xO prog w A h' ifs env' (p z) ∧ (p z = true → Ev prog w A h' elt env' (PS prog w M' (f z))))
  (k : ∀ s',St prog w B s₀ Own₀ M₀ names env Own M ((x,.dat (.list ((ys.filter p).map f))) :: XJ x ρ) μ s' → wpAny (model prog w) A (execs rest env) Q E s') :
  wpAny (model prog w) A (execs (.Assign [.Name x xp] (.ListComp elt [⟨.Name y yp,iter,ifs,0⟩] scope cpos) pos :: rest) env) Q E s:=by
 refine JI S hx R hc hsrc ys g hs (fun z => [(y,.dat (g z))]) p f (fun z _ => wD.name hy) (xu fun z => ?_) hsz hfs (fun z hz env' h' M' kx hE => turn z hz env' h' M' kx hE) k
 rcases yR hy with e | e <;> simp [e]
theorem yr {α : Type} {scope : Scope} {elt iter : Expr} {cpos : Pos} {dsrc : D}
  (S : St prog w B s₀ Own₀ M₀ names env Own M ρ μ s) {x y : Str} {xp yp pos : Pos} (hx : zY names x = true) (R : Rm A 0) (hc : yH names scope = true)
  (hsrc : Ev prog w A s.heap iter env (PR prog w M dsrc)) (ys : List α) (g : α → D) (hs : zb dsrc (ys.map g)) (f : α → D)
  (hy : zY scope.names y = true) (hsz : ys.length ≤ sizeLine) (hfs : ∀ x,foldedSetIterable iter env x = pure x)
  (turn : ∀ z ∈ ys,∀ env' h' M',zR s.heap h' → En prog w B scope.names env' h' M' ((y,.dat (g z)) :: xV scope.names ρ) μ → Ev prog w A h' elt env' (PS prog w M' (f z)))
  (k : ∀ s',St prog w B s₀ Own₀ M₀ names env Own M ((x,.dat (.list (ys.map f))) :: XJ x ρ) μ s' → wpAny (model prog w) A (execs rest env) Q E s') :
  wpAny (model prog w) A (execs (.Assign [.Name x xp] (.ListComp elt [⟨.Name y yp,iter,[],0⟩] scope cpos) pos :: rest) env) Q E s:=by
 refine km S hx R hc hsrc ys g hs (fun _ => true) f hy hsz hfs (fun z hz env' h' M' kx hE => ⟨xO.nil,fun _ => turn z hz env' h' M' kx hE⟩) ?_
 rw [List.filter_eq_self.mpr fun _ _ => rfl]; exact k
theorem xP.to {r r' : D} {fl : Flow} {s' : Shared} (e : r = r') (x : xP prog w B s₀ Own₀ M₀ names env r fl s') : xP prog w B s₀ Own₀ M₀ names env r' fl s':=e ▸ x
theorem xP.mk {r : D} {v : Value} (S : St prog w B s₀ Own₀ M₀ names env Own M ρ μ s) (x : Rp prog w s.heap M v r) : xP prog w B s₀ Own₀ M₀ names env r (.ret v) s:=⟨v,_,_,_,_,rfl,S,x⟩
theorem WP {e : Expr} {pos : Pos} {d r : D} {rest : List Stmt} (S : St prog w B s₀ Own₀ M₀ names env Own M ρ μ s) (hv : Ev prog w A s.heap e env (PS prog w M d)) (he : d = r) :
  wpAny (model prog w) A (execs (.Return (some e) pos :: rest) env) (xP prog w B s₀ Own₀ M₀ names env r) E s :=
 xF S hv fun v s' S' x => xP.to he (xP.mk S' x)
end
section
variable {prog : Program} {w : World} {A : Around} {B : Heap} {s₀ s : Shared} {Own₀ M₀ Own M : Addr → Prop} {names : zJ} {env : Env} {ρ : List (Str × RV)} {μ : List (Addr × D)} {h : Heap} {k : Nat}
 {E : Value → Shared → Prop} {Q : Flow → Shared → Prop} {rest : List Stmt}
noncomputable def YM (prog : Program) (w : World) (A : Around) (M : Addr → Prop) (op : Operator) (d₀ d₁ d : D) : Prop :=
 ∀ (s : Shared) (E : Value → Shared → Prop) (Q : Value → Shared → Prop) (a b : Value),Rp prog w s.heap M a d₀ → Rd prog w s.heap M b d₁ → (∀ v s',Keeps s s' → Rp prog w s'.heap M v d → Q v s') → wpAny (model prog w) A (inplaceOp op a b) Q E s
theorem YM.add (a b : Int) : YM prog w A M .Add (.int a) (.int b) (.int (a + b)):=by
 intro s E Q x y rx ry hQ
 obtain ⟨t,rfl⟩:=rx.int_inv; obtain ⟨u,rfl⟩:=ry.int_inv
 exact AutoIntOps.iadd_0 (hQ _ _ (zI s _) (.int _ _))
theorem YM.sub (a b : Int) : YM prog w A M .Sub (.int a) (.int b) (.int (a - b)):=by
 intro s E Q x y rx ry hQ
 obtain ⟨t,rfl⟩:=rx.int_inv; obtain ⟨u,rfl⟩:=ry.int_inv
 exact AutoIntOps.isub_0 (hQ _ _ (zI s _) (.int _ _))
theorem YM.xor (a b : Int) : YM prog w A M .BitXor (.int a) (.int b) (.int (Builtin.bitXor a b)):=by
 intro s E Q x y rx ry hQ
 obtain ⟨t,rfl⟩:=rx.int_inv; obtain ⟨u,rfl⟩:=ry.int_inv
 exact ixor_int (hQ _ _ (zI s _) (.int _ _))
theorem YM.or (a b : Int) : YM prog w A M .BitOr (.int a) (.int b) (.int (Builtin.bitOr a b)):=by
 intro s E Q x y rx ry hQ
 obtain ⟨t,rfl⟩:=rx.int_inv; obtain ⟨u,rfl⟩:=ry.int_inv
 exact ior_int (hQ _ _ (zI s _) (.int _ _))
theorem YM.shl (a n : Int) (h0 : 0 ≤ n) (h1 : n ≤ 1000000) (h2 : a.natAbs < 2 ^ 64) : YM prog w A M .LShift (.int a) (.int n) (.int (a * 2 ^ n.toNat)):=by
 intro s E Q x y rx ry hQ
 obtain ⟨t,rfl⟩:=rx.int_inv; obtain ⟨u,rfl⟩:=ry.int_inv
 exact ilshift_int_small h0 h1 h2 (hQ _ _ (zI s _) (.int _ _))
theorem zH.hex (i : Int) (hs : (baseText "0x" 16 i).length ≤ sizeLine) : zH prog w k B (.builtin "hex") [.int i] (.str (baseText "0x" 16 i)):=by
 intro A M s E Q vs R X old rs hQ
 obtain ⟨v,rfl,r⟩:=rs.one_inv
 obtain ⟨t,rfl⟩:=r.int_inv
 exact P.hex_of_int (hQ _ _ (zI s _) (.str _ _)) hs
theorem ZR {h : Heap} : ∀ {vs : List Value} {xs : List Str},zE prog w h M vs (xs.map .str) → ∃ l : List (Str × Tok),vs = strValues l ∧ l.map (·.1) = xs
 | _,[],r => by cases r; exact ⟨[],rfl,rfl⟩
 | _,x :: xs,r => by
  cases r with
  | cons a r =>
   obtain ⟨t,rfl⟩:=a.str_inv
   obtain ⟨l,rfl,e⟩:=ZR r
   exact ⟨(x,t) :: l,rfl,by simp [e]⟩
noncomputable def wW (sep : Str) : List Str → Str
 | [x] => x
 | l => Builtin.Str.glued sep l
noncomputable def yc (sep : Str) (xs : List Str) : Bool:=!Builtin.Str.tooLong (xs.toArray.foldl (· + ·.length + sep.length) 0) && decide ((wW sep xs).length ≤ sizeLine)
theorem zH.join (sep : Str) (xs : List Str) (hs : yc sep xs = true) : zH prog w k B (.builtin "str.join") [.str sep,.list (xs.map .str)] (.str (wW sep xs)):=by
 intro A M s E Q vs R X old rs hQ
 obtain ⟨v,u,rfl,r1,r2⟩:=rs.two_inv
 obtain ⟨t,rfl⟩:=r1.str_inv
 obtain ⟨a,us,rfl,p,q⟩:=r2.list_inv
 obtain ⟨l,rfl,e⟩:=ZR q
 simp only [yc,Bool.and_eq_true,Bool.not_eq_true',decide_eq_true_eq] at hs
 refine call_meets F.slot_str_join rfl F.entry_str_join (F.args_str_join_2 _ _) (PySem.meets_str_join_list sep t a l (by rw [e]; exact hs.1)) ⟨p.isList, ?_⟩
 subst e
 match l,hs with
 | [p],_ => exact hQ _ _ (zF s) (.str _ _)
 | [],hs => exact ⟨hs.2,hQ _ _ (zI s _) (.str _ _)⟩
 | p :: q :: l,hs => exact ⟨hs.2,hQ _ _ (zI s _) (.str _ _)⟩
theorem zx {name : Str} {id : String} {b : Builtin} {m : Made} (slot : Slot "str" name id) (entry : entryFor table id = some b) {x : Str} {t : Tok} {vs : List Value} (args : argsOk id ⟨.str x t :: vs,[]⟩) (g : Gives (b ⟨.str x t :: vs,[]⟩) m)
  {s : Shared} {E Q : Value → Shared → Prop} (h : m.post Q s) : wpAny (model prog w) A (call (.builtin id) (.str x t :: vs)) Q E s :=
 call_meets slot rfl entry args g.meets h
theorem zH.startswith (x y : Str) : zH prog w k B (.builtin "str.startswith") [.str x,.str y] (.bool (0 + y.length ≤ x.length && Builtin.Str.subAt x y 0)):=by
 intro A M s E Q vs R X old rs hQ
 obtain ⟨v,u,rfl,r1,r2⟩:=rs.two_inv
 obtain ⟨t,rfl⟩:=r1.str_inv; obtain ⟨t2,rfl⟩:=r2.str_inv
 exact zx F.slot_str_startswith F.entry_str_startswith (F.args_str_startswith_2 _ _) (PySem.gives_str_startswith x y t t2) (hQ _ _ (zF s) (.bool _))
theorem zH.endswith (x y : Str) : zH prog w k B (.builtin "str.endswith") [.str x,.str y] (.bool (0 + y.length ≤ x.length && Builtin.Str.subAt x y (x.length - y.length))):=by
 intro A M s E Q vs R X old rs hQ
 obtain ⟨v,u,rfl,r1,r2⟩:=rs.two_inv
 obtain ⟨t,rfl⟩:=r1.str_inv; obtain ⟨t2,rfl⟩:=r2.str_inv
 exact zx F.slot_str_endswith F.entry_str_endswith (F.args_str_endswith_2 _ _) (PySem.gives_str_endswith x y t t2) (hQ _ _ (zF s) (.bool _))
theorem zH.count (x y : Str) : zH prog w k B (.builtin "str.count") [.str x,.str y] (.int (Builtin.Str.occurrences x y 0 x.length (x.length + 1)).length):=by
 intro A M s E Q vs R X old rs hQ
 obtain ⟨v,u,rfl,r1,r2⟩:=rs.two_inv
 obtain ⟨t,rfl⟩:=r1.str_inv; obtain ⟨t2,rfl⟩:=r2.str_inv
 exact zx F.slot_str_count F.entry_str_count (F.args_str_count_2 _ _) (PySem.gives_str_count x y t t2) (hQ _ _ (zI s _) (.int _ _))
theorem YF {n : Nat} (h : Builtin.Str.tooLong n = false) : n ≤ sizeLine:=by simpa [Builtin.Str.tooLong] using h
noncomputable def yY (x : Str) : Str:=⟨placed x fun _ c => Unicode.upperOf c⟩
noncomputable def zX (x : Str) : Str:=⟨placed x fun i _ => Unicode.lowerAt x.cps i⟩
noncomputable def J9 (x : Str) : Str:=⟨placed x fun i c => if Unicode.isUpper c then Unicode.lowerAt x.cps i else if Unicode.isLower c then Unicode.upperOf c else [c]⟩
theorem zH.upper (x : Str) (hs : Builtin.Str.tooLong (yY x).cps.size = false) : zH prog w k B (.builtin "str.upper") [.str x] (.str (yY x)):=by
 intro A M s E Q vs R X old rs hQ
 obtain ⟨v,rfl,r1⟩:=rs.one_inv
 obtain ⟨t,rfl⟩:=r1.str_inv
 exact zx F.slot_str_upper F.entry_str_upper (F.args_str_upper_1 _) (PySem.gives_str_upper x t hs) ⟨(YF hs),hQ _ _ (zI s _) (.str _ _)⟩
theorem zH.lower (x : Str) (hs : Builtin.Str.tooLong (zX x).cps.size = false) : zH prog w k B (.builtin "str.lower") [.str x] (.str (zX x)):=by
 intro A M s E Q vs R X old rs hQ
 obtain ⟨v,rfl,r1⟩:=rs.one_inv
 obtain ⟨t,rfl⟩:=r1.str_inv
 exact zx F.slot_str_lower F.entry_str_lower (F.args_str_lower_1 _) (PySem.gives_str_lower x t hs) ⟨(YF hs),hQ _ _ (zI s _) (.str _ _)⟩
theorem zH.swapcase (x : Str) (hs : Builtin.Str.tooLong (J9 x).cps.size = false) : zH prog w k B (.builtin "str.swapcase") [.str x] (.str (J9 x)):=by
 intro A M s E Q vs R X old rs hQ
 obtain ⟨v,rfl,r1⟩:=rs.one_inv
 obtain ⟨t,rfl⟩:=r1.str_inv
 exact zx F.slot_str_swapcase F.entry_str_swapcase (F.args_str_swapcase_1 _) (PySem.gives_str_swapcase x t hs) ⟨(YF hs),hQ _ _ (zI s _) (.str _ _)⟩
theorem Yy (x y : Str) (i j : Int) (t u v z : Tok) : Gives (Builtin.«str.find» ⟨[.str x t,.str y u,.int i v,.int j z],[]⟩) (.int (match Builtin.Str.occurrences x y (max 0 (if i < 0 then i + x.length else i)).toNat (min (max 0 (if j < 0 then j + x.length else j)).toNat x.length) 1 with | k :: _ => (k : Int) | [] => -1)):=by
 show Gives (match Builtin.Str.occurrences x y (max 0 (if i < 0 then i + x.length else i)).toNat (min (max 0 (if j < 0 then j + x.length else j)).toNat x.length) 1 with | k :: _ => retInt k | [] => (do rule "str.find.not-found"; retInt (-1))) _
 cases Builtin.Str.occurrences x y (max 0 (if i < 0 then i + x.length else i)).toNat (min (max 0 (if j < 0 then j + x.length else j)).toNat x.length) 1 with
 | nil => exact .rule (.of_eq rfl)
 | cons k _ => exact .of_eq rfl
noncomputable def kj (x y : Str) (i j : Int) : Int:=match Builtin.Str.occurrences x y (max 0 (if i < 0 then i + x.length else i)).toNat (min (max 0 (if j < 0 then j + x.length else j)).toNat x.length) 1 with | k :: _ => (k : Int) | [] => -1
theorem zH.find4 (x y : Str) (i j : Int) : zH prog w k B (.builtin "str.find") [.str x,.str y,.int i,.int j] (.int (kj x y i j)):=by
 intro A M s E Q vs R X old rs hQ
 cases rs with | cons r1 rs => cases rs with | cons r2 rs => cases rs with | cons r3 rs => cases rs with | cons r4 rs => cases rs with | nil =>
 obtain ⟨t,rfl⟩:=r1.str_inv; obtain ⟨t2,rfl⟩:=r2.str_inv; obtain ⟨t3,rfl⟩:=r3.int_inv; obtain ⟨t4,rfl⟩:=r4.int_inv
 exact zx F.slot_str_find F.entry_str_find (F.args_str_find_4 _ _ _ _) (Yy x y i j t t2 t3 t4) (hQ _ _ (zI s _) (.int _ _))
noncomputable def WR (prog : Program) (w : World) (k : Nat) (B : Heap) (f : Value) (ds : List D) (d : D) : Prop :=
 ∀ (A : Around) (M : Addr → Prop) (s : Shared) (E : Value → Shared → Prop) (Q : Value → Shared → Prop) (vs : List Value),Rm A k → zR B s.heap → (∀ a,M a → ∃ o,s.heap.get? a = some o) → yk prog w s.heap M vs ds →
  (∀ a s',Keeps s s' → s.heap.get? a = none → zc prog w s'.heap (fun b => M b ∨ b = a) a d → Q (.ref a) s') → wpAny (model prog w) A (call f vs) Q E s
theorem jK.meth {h : Heap} {k : Nat} (S : En prog w B names env h M ρ μ) (R : Rm A k) {o : Expr} {name : Str} {apos pos : Pos} {es : List Expr} {T id : String} {dr d : D} {ds : List D}
   (ho : Ev prog w A h o env (PR prog w M dr)) (hT : Jw dr = some T) (pa : PlainAttrs T) (slot : Slot T name id) (hty : typeOf (.builtin id) = pure (.type "method_descriptor"))
   (hx : xJ prog w A h env M es ds) (hbase : attributeBase o name env (eval o env) = eval o env) (hfew : decide (es.length + 0 + 0 < 30) = true) (hline : (apos.endLine == pos.line) = true)
   (hc : WR prog w k B (.builtin id) (dr :: ds) d) : jK prog w A h (.Call (.Attribute o name apos) es [] pos) env M d:=by
 intro s E Q kx hQ
 refine PySem.wpAny_Call_method hbase ?_ hline pa slot hty (ho s E _ kx fun ov s₁ k₁ r => ⟨(vE hT r).1,(vE hT r).2, ?_⟩)
 · rw [hx.few]; exact hfew
 · refine yw hx (kx.trans (ke k₁)) fun vs s₂ k₂ rs => ?_
   have X:=kx.trans ((ke k₁).trans (ke k₂))
   refine hc A M s₂ E Q _ R (S.base.trans X) (fun a m => ?_) (.cons (r.ext (ke k₂)) rs) fun a s' k₃ n c => hQ a s' (zA k₁ (zA k₂ k₃)) (yj (zA k₁ k₂) n) c
   obtain ⟨o,e⟩:=S.old a m
   exact ⟨o,X _ _ e⟩
theorem WL {h : Heap} {M : Addr → Prop} : ∀ l : List (Str × Tok),zE prog w h M (strValues l) ((l.map (·.1)).map .str)
 | [] => .nil
 | p :: l => .cons (.str _ _) (WL l)
noncomputable def zz (x y : Str) : List Str :=
 if (decide (x.length < y.length) || decide (Builtin.Str.strKind x < Builtin.Str.strKind y)) = true then [x]
 else if (Builtin.Str.occurrences x y 0 x.length (x.length + 1)).isEmpty = true then [x]
 else Builtin.Str.partsBetween x (Builtin.Str.occurrences x y 0 x.length (x.length + 1)) y.length
theorem jh : ∀ (n : Nat) (l : List Str),∃ l' : List (Str × Tok),strsFrom n l = strValues l' ∧ l'.map (·.1) = l
 | _,[] => ⟨[],rfl,rfl⟩
 | n,x :: l => by
  obtain ⟨l',e,e2⟩:=jh (n + 1) l
  exact ⟨(x,n) :: l',by rw [strsFrom,e]; rfl,by simp [e2]⟩
theorem Yq {h : Heap} {M : Addr → Prop} {l : List (Str × Tok)} {n : Nat} : zc prog w (h.push { cls:=.type "list",data:=.seq (strValues l).toArray n }) (fun b => M b ∨ b = h.objs.size) h.objs.size (.list ((l.map (·.1)).map .str)) :=
 .list (vs:=strValues l) ⟨n,Heap.get?_push_size _ rfl⟩ (WL l)
theorem WR.split (x y : Str) (hy : (y.length == 0) = false) (hx : x.length ≤ sizeLine) (hn : (zz x y).length ≤ sizeLine) : WR prog w k B (.builtin "str.split") [.str x,.str y] (.list ((zz x y).map .str)):=by
 intro A M s E Q vs R X old rs hQ
 obtain ⟨v,u,rfl,r1,r2⟩:=rs.two_inv
 obtain ⟨t,rfl⟩:=r1.str_inv; obtain ⟨t2,rfl⟩:=r2.str_inv
 have one : (zz x y) = [x] → (listOfItself x t) A (wants Q E) s:=fun e => by
   refine hQ _ _ (zQ s _ s.toks) (zS _) ?_
   rw [e]; exact Yq (l:=[(x,t)])
 by_cases h1 : (decide (x.length < y.length) || decide (Builtin.Str.strKind x < Builtin.Str.strKind y)) = true
 · exact call_meets F.slot_str_split rfl F.entry_str_split (F.args_str_split_2 _ _) (PySem.meets_str_split_cannot_occur x y t t2 h1) (one (by rw [zz,if_pos h1]))
 by_cases h2 : (Builtin.Str.occurrences x y 0 x.length (x.length + 1)).isEmpty = true
 · exact call_meets F.slot_str_split rfl F.entry_str_split (F.args_str_split_2 _ _) (PySem.meets_str_split_not_found x y t t2 (by simpa using h1) hy h2) (one (by rw [zz,if_neg h1,if_pos h2]))
 · have e : zz x y = Builtin.Str.partsBetween x (Builtin.Str.occurrences x y 0 x.length (x.length + 1)) y.length:=by rw [zz,if_neg h1,if_neg h2]
   rw [e] at hn hQ
   refine call_meets F.slot_str_split rfl F.entry_str_split (F.args_str_split_2 _ _) (PySem.meets_str_split_sep x y t t2 (by simpa using h1) hy (by simpa using h2) hx hn) ?_
   obtain ⟨l',e1,e2⟩:=jh s.toks (Builtin.Str.partsBetween x (Builtin.Str.occurrences x y 0 x.length (x.length + 1)) y.length)
   rw [e1]
   refine hQ _ _ (zQ s _ _) (zS _) ?_
   rw [← e2]; exact Yq
theorem qE {l : Addr} {its : Array Value} {j : Nat} {I : Int} {t : Tok} {v : Value} {Q : Unit → Shared → Prop} (hl : s.heap.PlainList l its) (hI : I = (j : Int)) (hj : j < its.size) (hfit : Builtin.List.listFitsIndex I = true)
  (hQ : ∀ h',h'.PlainList l (its.setIfInBounds j v) → Heap.SameBut l s.heap h' → Q () { s with heap:=h' }) : wpAny (model prog w) A (setItem (.ref l) (.int I t) v) Q E s:=by
 obtain ⟨n,ho⟩:=id hl
 unfold setItem
 try with_reducible refine wpAny_holding ?_
 first | refine wpAny_bind (wpAny_pure ?_) | skip
 refine wpAny_bind (wpAny_sequenceKey hl.isList.typeIs (by decide) ?_)
 refine wpAny_bind (wpAny_callSpecial?_slot (name:=Str.ofString "__setitem__") hl.isList.typeIs slot_list_setitem
  (wpAny_call_entry slot_list_setitem hl.isList.typeIs entry_list_setitem ?_ (args_list_setitem _ _ _)))
 show wpAny _ _ (Builtin.List.listSubscript? (.int I t) >>= _) _ _ s
 refine wpAny_bind (wpAny_listSubscript_int hfit ?_)
 subst hI
 show wpAny _ _ ((seqItemAt l j >>= fun r => pure (r.map (j,·))) >>= _) _ _ s
 refine wpAny_bind (wpAny_bind (wpAny_seqItemAt ho rfl (wpAny_pure ?_)))
 rw [Array.getElem?_eq_getElem hj]
 show wpAny _ _ (setSeqItemAt l j v >>= _) _ _ s
 have hp:=xg (f:=fun xs => xs.setIfInBounds j v) ho
 refine wpAny_bind (wpAny_setSeqItemAt ho rfl ?_)
 first
  | exact wpAny_bind (wpAny_pure (wpAny_pure ⟨.none,rfl,wpAny_pure (hQ _ hp (Heap.SameBut.update ..))⟩))
  | exact wpAny_pure ⟨.none,rfl,wpAny_pure (hQ _ hp (Heap.SameBut.update ..))⟩
theorem zE.set {h : Heap} {vs : List Value} {ds : List D} (r : zE prog w h M vs ds) (n : Nat) {v : Value} {d : D} (x : Rp prog w h M v d) : zE prog w h M (vs.set n v) (ds.set n d):=by
 induction vs generalizing ds n with
 | nil => cases r; exact .nil
 | cons u vs ih =>
  cases r with
  | cons y r =>
   cases n with
   | zero => exact .cons x r
   | succ n => exact .cons y (ih r n)
theorem zE.erase {h : Heap} {vs : List Value} {ds : List D} (r : zE prog w h M vs ds) (n : Nat) : zE prog w h M (vs.eraseIdx n) (ds.eraseIdx n):=by
 induction vs generalizing ds n with
 | nil => cases r; exact .nil
 | cons u vs ih =>
  cases r with
  | cons y r =>
   cases n with
   | zero => exact r
   | succ n => exact .cons y (ih r n)
theorem kJ {I : Int} (h0 : -16777217 ≤ I) (h1 : I ≤ 16777217) : Builtin.List.listFitsIndex I = true:=by
 simp only [Builtin.List.listFitsIndex,Bool.and_eq_true,decide_eq_true_eq]
 omega
theorem Xj (S : St prog w B s₀ Own₀ M₀ names env Own M ρ μ s) {x : Str} {xp spos pos : Pos} {ie e : Expr} {a : Addr} {xs : List D} {i : Nat} {I : Int} {d : D} {pre post : List (Addr × D)}
  (hm : (x,RV.adr a) ∈ ρ) (hdb : (x == ("__debug__" : Str)) = false) (hμ : μ = pre ++ (a,.list xs) :: post) (ho : Own a) (he : Ev prog w A s.heap e env (PS prog w M d)) (hi : Ev prog w A s.heap ie env (PR prog w M (.int I)))
  (hI : I = (i : Int)) (hl : i < xs.length) (hz : xs.length ≤ sizeLine) (hs : swapsWith e (some (.Subscript (.Name x xp) ie spos)) pos.line env = pure false)
  (hQ : ∀ s',St prog w B s₀ Own₀ M₀ names env Own M ρ (pre ++ (a,.list (xs.set i d)) :: post) s' → wpAny (model prog w) A (execs rest env) Q E s') :
  wpAny (model prog w) A (execs (.Assign [.Subscript (.Name x xp) ie spos] e pos :: rest) env) Q E s:=by
 refine wpAny_execs_cons (wpAny_Assign_Subscript (he s E _ (zR.refl _) fun v s₁ k₁ rv => ?_) hs)
 refine (Ev.var (S.e.ext (ke k₁)) hm hdb) s₁ E _ (zR.refl _) fun ov s₂ k₂ r => ?_
 cases r
 refine hi s₂ E _ (ke (zA k₁ k₂)) fun iv s₃ k₃ ri => ?_
 obtain ⟨t,rfl⟩:=ri.int_inv
 have k:=zA k₁ (zA k₂ k₃)
 have S₃:=S.step k
 obtain ⟨us,p,q⟩:=(S₃.e.mem a (.list xs) (by rw [hμ]; simp)).list_inv
 rw [sizeLine_eq] at hz
 refine qE p hI (by rw [List.size_toArray,q.length]; exact hl) (kJ (by omega) (by omega)) fun h' p' sb => hQ _ ?_
 refine S₃.effect1 hμ ho (fun b o n e => (sb.2 b n).trans e) ?_
 have u:=yX sb (S.own a ho)
 exact .list (vs:=us.set i v) (by simpa using p') ((zE.to u q).set i (Rp.to u (rv.ext (ke (zA k₂ k₃)))))
theorem j4 (S : St prog w B s₀ Own₀ M₀ names env Own M ρ μ s) {x : Str} {xp spos pos : Pos} {ie : Expr} {a : Addr} {xs : List D} {i : Nat} {I : Int} {pre post : List (Addr × D)}
  (hm : (x,RV.adr a) ∈ ρ) (hdb : (x == ("__debug__" : Str)) = false) (hμ : μ = pre ++ (a,.list xs) :: post) (ho : Own a) (hi : Ev prog w A s.heap ie env (PR prog w M (.int I)))
  (hI : seqIndex? I xs.length = some i) (hf : Builtin.List.listFitsIndex I = true) (hz : xs.length ≤ sizeLine)
  (hQ : ∀ s',St prog w B s₀ Own₀ M₀ names env Own M ρ (pre ++ (a,.list (xs.eraseIdx i)) :: post) s' → wpAny (model prog w) A (execs rest env) Q E s') :
  wpAny (model prog w) A (execs (.Delete [.Subscript (.Name x xp) ie spos] pos :: rest) env) Q E s:=by
 refine wpAny_execs_cons (wpAny_Delete (wpAny_deleteEach_cons (wpAny_delete_Subscript ?_)))
 refine (Ev.var S.e hm hdb) s E _ (zR.refl _) fun ov s₂ k₂ r => ?_
 cases r
 refine hi s₂ E _ (ke k₂) fun iv s₃ k₃ ri => ?_
 obtain ⟨t,rfl⟩:=ri.int_inv
 have S₃:=S.step (zA k₂ k₃)
 obtain ⟨us,p,q⟩:=(S₃.e.mem a (.list xs) (by rw [hμ]; simp)).list_inv
 have hl : us.length = xs.length:=q.length
 refine wpAny_delItem_plain p hf (by rw [List.size_toArray,hl]; exact hI) (fun h' p' sb => wpAny_deleteEach_nil (hQ _ ?_)) (by rw [List.size_toArray,hl]; exact hz)
 refine S₃.effect1 hμ ho (fun b o n e => (sb.2 b n).trans e) ?_
 have u:=yX sb (S.own a ho)
 refine .list (vs:=us.eraseIdx i) ?_ ((zE.to u q).erase i)
 have e : us.toArray.eraseIdxIfInBounds i = (us.eraseIdx i).toArray:=by
  simp only [Array.eraseIdxIfInBounds]
  split
  · simp
  · rename_i hlt
    rw [List.eraseIdx_of_length_le (by simpa using hlt)]
 rw [e] at p'; exact p'
theorem Ww (S : St prog w B s₀ Own₀ M₀ names env Own M ρ μ s) {t : Expr} {msg : Option Expr} {pos : Pos} {b : Bool} (ht : Tv prog w A s.heap t env b) (hb : b = true)
  (hQ : ∀ s',St prog w B s₀ Own₀ M₀ names env Own M ρ μ s' → wpAny (model prog w) A (execs rest env) Q E s') : wpAny (model prog w) A (execs (.Assert t msg pos :: rest) env) Q E s :=
 wpAny_execs_cons (wpAny_Assert_holds (by subst hb; exact ht s E _ (zR.refl _) fun s₁ k₁ => ⟨rfl,hQ s₁ (S.step k₁)⟩))
theorem Ev.methO {h : Heap} {k : Nat} (S : En prog w B names env h M ρ μ) (R : Rm A k) {o : Expr} {name : Str} {apos pos : Pos} {es : List Expr} {T id : String} {d : D} {ds : List D} {a : Addr} {ob : Obj}
   (ho : Ev prog w A h o env (fun _ u => u = .ref a)) (hB : B.get? a = some ob) (hT : ob.cls = .type T) (hd : ob.dict = none) (pa : PlainAttrs T) (slot : Slot T name id) (hty : typeOf (.builtin id) = pure (.type "method_descriptor"))
   (hx : xJ prog w A h env M es ds) (hbase : attributeBase o name env (eval o env) = eval o env) (hfew : decide (es.length + 0 + 0 < 30) = true) (hline : (apos.endLine == pos.line) = true)
   (hc : ∀ (A : Around) (M : Addr → Prop) (s : Shared) (E : Value → Shared → Prop) (Q : Value → Shared → Prop) (vs : List Value),Rm A k → zR B s.heap → (∀ a,M a → ∃ o,s.heap.get? a = some o) → yk prog w s.heap M vs ds →
    (∀ v s',Keeps s s' → Rp prog w s'.heap M v d → Q v s') → wpAny (model prog w) A (PySem.call (.builtin id) (.ref a :: vs)) Q E s) : Ev prog w A h (.Call (.Attribute o name apos) es [] pos) env (PS prog w M d):=by
 intro s E Q kx hQ
 refine PySem.wpAny_Call_method hbase ?_ hline pa slot hty (ho s E _ kx fun ov s₁ k₁ e => ?_)
 · rw [hx.few]; exact hfew
 subst e
 have hob : s₁.heap.get? a = some ob:=ke k₁ _ _ (kx _ _ (S.base _ _ hB))
 refine ⟨⟨_,hob,hT⟩,fun b e => by cases e; exact ⟨_,hob,hd⟩, ?_⟩
 refine yw hx (kx.trans (ke k₁)) fun vs s₂ k₂ rs => ?_
 have X:=kx.trans ((ke k₁).trans (ke k₂))
 refine hc A M s₂ E Q _ R (S.base.trans X) (fun a m => ?_) rs fun v s' k₃ r => hQ v s' (zA k₁ (zA k₂ k₃)) r
 obtain ⟨o,e⟩:=S.old a m
 exact ⟨o,X _ _ e⟩
noncomputable def inS (x y : Str) : Bool:=!(Builtin.Str.occurrences y x 0 y.length 1).isEmpty
theorem zN.inS (x y : Str) : zN prog w .In (.str x) (.str y) (inS x y):=by
 intro A M s E Q a b hu ra rb hQ
 obtain ⟨t,rfl⟩:=ra.str_inv; obtain ⟨u,rfl⟩:=rb.str_inv
 exact PyProof.Rows.in_str (hQ _ (zF s))
theorem zN.notInS (x y : Str) : zN prog w .NotIn (.str x) (.str y) (!Mine.inS x y):=by
 intro A M s E Q a b hu ra rb hQ
 obtain ⟨t,rfl⟩:=ra.str_inv; obtain ⟨u,rfl⟩:=rb.str_inv
 exact PyProof.Rows.notIn_str (hQ _ (zF s))
theorem zN.eqS (x y : Str) : zN prog w .Eq (.str x) (.str y) (x == y):=by
 intro A M s E Q a b hu ra rb hQ
 obtain ⟨t,rfl⟩:=ra.str_inv; obtain ⟨u,rfl⟩:=rb.str_inv
 exact PyProof.Rows.eq_str (hQ _ (zF s))
theorem zN.neS (x y : Str) : zN prog w .NotEq (.str x) (.str y) (x != y):=by
 intro A M s E Q a b hu ra rb hQ
 obtain ⟨t,rfl⟩:=ra.str_inv; obtain ⟨u,rfl⟩:=rb.str_inv
 exact PyProof.Rows.ne_str (hQ _ (zF s))
theorem zN.ge (x y : Int) : zN prog w .GtE (.int x) (.int y) (decide (y ≤ x)):=by
 intro A M s E Q a b hu ra rb hQ
 obtain ⟨t,rfl⟩:=ra.int_inv; obtain ⟨u,rfl⟩:=rb.int_inv
 exact P.ge_int (hQ _ (zF s))
theorem zN.le (x y : Int) : zN prog w .LtE (.int x) (.int y) (decide (x ≤ y)):=by
 intro A M s E Q a b hu ra rb hQ
 obtain ⟨t,rfl⟩:=ra.int_inv; obtain ⟨u,rfl⟩:=rb.int_inv
 exact P.le_int (hQ _ (zF s))
theorem jU {e : Expr} {pos : Pos} {d r : D} {rest : List Stmt} {Q : Flow → Shared → Prop} (S : St prog w B s₀ Own₀ M₀ names env Own M ρ μ s) (hv : Ev prog w A s.heap e env (PS prog w M d)) (he : d = r)
  (hQ : ∀ v s',xP prog w B s₀ Own₀ M₀ names env r (.ret v) s' → Q (.ret v) s') : wpAny (model prog w) A (execs (.Return (some e) pos :: rest) env) Q E s :=
 xF S hv fun v s' S' x => hQ v s' (xP.to he (xP.mk S' x))
theorem Ev.itemNeg {value slice : Expr} {pos : Pos} {xs : List D} {i : Int} {d : D}
  (hv : Ev prog w A h value env (PR prog w M (.list xs))) (hi : Ev prog w A h slice env (PR prog w M (.int i))) (h0 : i < 0) (h1 : -(xs.length : Int) ≤ i) (h2 : -(2 ^ 63) ≤ i) (hd : xs[(i + xs.length).toNat]? = some d) :
  Ev prog w A h (.Subscript value slice pos) env (PS prog w M d):=by
 intro s E Q k hQ
 refine Subscript_ (hv s E _ k fun o s₁ k₁ ro => hi s₁ E _ (k.trans (ke k₁)) fun iv s₂ k₂ ri => ?_)
 obtain ⟨t,rfl⟩:=ri.int_inv
 obtain ⟨a,vs,rfl,p,q⟩:=(ro.ext (ke k₂)).list_inv
 obtain ⟨v,hv,rv⟩:=q.get hd
 have hl:=q.length
 obtain ⟨ops,hs⟩:=zh slice (.ref a) (.int i t)
 exact tail_any p.isList.typeIs slot_list_getitem.lookup (wpAny_getItem_list_neg p.isList h0 (by rw [List.size_toArray,hl]; exact h1) h2 (by rw [List.size_toArray,hl]; simpa using hv) (hQ v s₂ (zA k₁ k₂) rv)) hs
theorem Qd {x : Str} {r : RV} {l : List (Str × RV)} (h : (l.all fun p => p.1 != x) = true) (m : (x,r) ∈ l) : False:=by
 have:=List.all_eq_true.mp h _ m
 simp at this
theorem jA {α : Type} {f : α → Bool} {x : α} {l : List α} (h : x ∈ l) (hf : f x = true) : x ∈ l.filter f:=List.mem_filter.mpr ⟨h,hf⟩
theorem Ev.globD {mg mb : Str → Option Value} (G : Gl B mg mb) (S : En prog w B names env h M ρ μ) {x : Str} {v : Value} {d : D} {p : Pos}
  (hx : names.lookup x = some .globalImplicit) (hv : mg x = some v) (hd : (x == ("__debug__" : Str)) = false) (r : ∀ h M,Rp prog w h M v d) : Ev prog w A h (.Name x p) env (PS prog w M d) :=
 (Ev.glob G S hx (.inl hv) hd).mono fun h v e => by subst e; exact r h M
theorem St.freeze1 {a : Addr} {x : Str} {xs : List D} (S : St prog w B s₀ Own₀ M₀ names env (fun b => Own b ∨ b = a) (fun b => M b ∨ b = a) ρ ((a,.list xs) :: μ) s) (hx : (x,.adr a) ∈ ρ) (na : ¬ M a) (hO : ∀ b,Own b → M b) (hm : ∀ b,M₀ b → M b) (ho : ∀ b,Own₀ b → Own b) :
  St prog w B s₀ Own₀ M₀ names env Own M ((x,.dat (.list xs)) :: ρ) μ s :=
 S.freeze hx (.head _) (fun b => ⟨fun o => ⟨.inl o,fun q => na (hO a (q ▸ o))⟩,fun o => o.1.resolve_right o.2⟩) (fun b => ⟨fun o => ⟨.inl o,fun q => na (q ▸ o)⟩,fun o => o.1.resolve_right o.2⟩)
  (fun o => na (hO a (ho a o))) (fun m => na (hm a m)) (fun p hp => .tail _ hp) (by have:=S.nodup; simp only [List.map_cons,List.nodup_cons] at this; exact this.2) (fun d hd => by have:=S.nodup; simp only [List.map_cons,List.nodup_cons] at this; exact this.1 (List.mem_map.mpr ⟨_,hd,rfl⟩))
noncomputable def ya (prog : Program) (w : World) (k : Nat) (B : Heap) (M₀ : Addr → Prop) (f : Addr) (xs : List D) {τ : Type} (P : τ → Prop) (μk : τ → List (Addr × D)) (step : τ → D → τ × D) : Prop :=
 ∀ (A : Around) (M : Addr → Prop) (s : Shared) (E Q : Value → Shared → Prop) (c : τ) (d : D) (v : Value),Rm A k → P c → zR B s.heap → (∀ a o,M a → B.get? a = some o → M₀ a) → (∀ a,M₀ a → M a) → (∀ a,M a → ∃ o,s.heap.get? a = some o) → d ∈ xs → Rp prog w s.heap M v d →
  (∀ a x,(a,x) ∈ μk c → zc prog w s.heap M a x) →
  (∀ r s',Yb ((μk c).map (·.1)) s s' → (∀ a x,(a,x) ∈ μk (step c d).1 → zc prog w s'.heap M a x) → Rp prog w s'.heap M r (step c d).2 → Q r s') → wpAny (model prog w) A (call (.ref f) [v]) Q E s
theorem V0 {t : Expr} {body orelse : List Stmt} {pos : Pos} {b : Bool} {μ' : List (Addr × D)} (S : St prog w B s₀ Own₀ M₀ names env Own M ρ μ s) (ht : ∀ Q' : Bool → Shared → Prop,(∀ s',St prog w B s₀ Own₀ M₀ names env Own M ρ μ' s' → Q' b s') → wpAny (model prog w) A (isTrue t env (eval t env)) Q' E s)
  (k : ∀ s',St prog w B s₀ Own₀ M₀ names env Own M ρ μ' s' → wpAny (model prog w) A (execs (if b then body else orelse) env) (fun f s₂ => match f with | .next => wpAny (model prog w) A (execs rest env) Q E s₂ | f => Q f s₂) E s') :
  wpAny (model prog w) A (execs (.If t body orelse pos :: rest) env) Q E s:=by
 refine wpAny_execs_cons (wpAny_If (ht _ fun s₁ S₁ => ?_))
 have:=k s₁ S₁
 cases b <;> exact this
theorem zN.ltB (a b : Bool) : zN prog w .Lt (.bool a) (.bool b) (!a && b):=by
 intro A M s E Q x y _ rx ry hQ
 rw [rx.bool_inv,ry.bool_inv]
 refine lt_bool ?_
 have : (decide (b2i a < b2i b)) = (!a && b):=by cases a <;> cases b <;> rfl
 first | exact hQ _ (zF s) | (rw [this]; exact hQ _ (zF s)) | (rw [← this]; exact hQ _ (zF s))
theorem V6 {τ : Type} {P : τ → Prop} {μk : τ → List (Addr × D)} {step : τ → D → τ × D} {f : Addr} {fo : Obj} {fd : FuncData} {xs : List D} {μa : List (Addr × D)} {c : τ} {M₁ : Addr → Prop} (S : St prog w B s₀ Own₀ M₀ names env Own M ρ (μa ++ μk c) s) (R : Rm A k)
   {x : Str} {xp pos : Pos} {e : Expr} {d : D} (hx : (x,RV.dat (.ob f fo)) ∈ ρ) (hdb : (x == ("__debug__" : Str)) = false) (hfd : fo.data = .func fd) (hst : ∀ rest,starEach (e :: rest) env = (false,eval e env) :: starEach rest env)
   (he : Ev prog w A s.heap e env (PS prog w M d)) (hd : d ∈ xs) (K : ya prog w k B M₁ f xs P μk step) (hP : P c) (hM : ∀ a o,M a → B.get? a = some o → M₁ a) (hM₁ : ∀ a,M₁ a → M a) (hO : ∀ a x,(a,x) ∈ μk c → Own a)
   (hfst : ∀ c c',(μk c).map (·.1) = (μk c').map (·.1)) {Q : Value → Shared → Prop}
   (hQ : ∀ v s',St prog w B s₀ Own₀ M₀ names env Own M ρ (μa ++ μk (step c d).1) s' → Rp prog w s'.heap M v (step c d).2 → (∀ a o,¬ M a → s.heap.get? a = some o → s'.heap.get? a = some o ∧ ¬ M a) → Q v s') : wpAny (model prog w) A (eval (.Call (.Name x xp) [e] [] pos) env) Q E s:=by
 refine wpAny_Call_Name_kw (Ev.var S.e hx hdb s E _ (zR.refl _) fun u s₁ k₁ r => ?_)
 obtain ⟨rfl,ef,mf⟩:=Rp.ob_inv r
 have hx1 : ZU prog w A s.heap env M [e] [d]:=.cons he .nil hst
 refine callWith_of (P:=fun h => h.get? f = some fo) (by show ((backTo pos (starEach [e] env)).any (·.1) || false) = false; rw [hx1.rd.noStar]; rfl) (fun h' X => ⟨.frame,.inl rfl, ?_⟩) (wX hx1 (ke k₁) fun vs s₂ k₂ rs => ?_)
 · refine (Looks.ld (part:=none) X).andThen ?_
   rw [hfd]
   exact Looks.now
 · refine ⟨ke k₂ _ _ ef, ?_⟩
   have k12:=zA k₁ k₂
   have S₂:=S.step k12
   cases rs with | cons rv rs => cases rs with | nil =>
   refine K A M s₂ E Q c d _ R hP S₂.e.base hM hM₁ S₂.e.old hd rv (fun a y hm => S₂.e.mem a y (List.mem_append_right _ hm)) fun r' s' ef' hc rr => hQ r' s' ?_ rr ?_
   all_goals obtain ⟨h',tk,rfl,kk⟩:=ef'
   rotate_left
   · intro a o m e
     refine ⟨kk a o (fun z => ?_) (ke k12 a o e),m⟩
     obtain ⟨⟨a',y⟩,hm,rfl⟩:=List.mem_map.mp z
     exact m (S.own a' (hO a' y hm))
   have hnd:=S₂.nodup
   rw [List.map_append,List.nodup_append] at hnd
   refine S₂.effect (wr:=(μk c).map (·.1)) (fun a ha => ?_) kk (fun a y hm => ?_) (by rw [List.map_append,List.map_append,hfst c (step c d).1])
   · obtain ⟨⟨a',y⟩,hm,rfl⟩:=List.mem_map.mp ha
     have : a' ∈ (μk (step c d).1).map (·.1):=by rw [← hfst c]; exact ha
     obtain ⟨⟨a'',y'⟩,hm',e'⟩:=List.mem_map.mp this
     dsimp only at e'
     subst e'
     exact ⟨hO _ y hm,y,y',List.mem_append_right _ hm,hc _ y' hm'⟩
   · rcases List.mem_append.mp hm with hm | hm
     · exact .inl ⟨fun z => hnd.2.2 a (List.mem_map.mpr ⟨_,hm,rfl⟩) a z rfl,List.mem_append_left _ hm⟩
     · exact .inr ⟨by rw [hfst c (step c d).1]; exact List.mem_map.mpr ⟨_,hm,rfl⟩,hc a y hm⟩
end
section
variable {prog : Program} {w : World} {A : Around} {B B' : Heap} {s₀ s : Shared} {Own₀ M₀ Own M : Addr → Prop} {names : zJ} {env : Env} {ρ : List (Str × RV)} {μ : List (Addr × D)} {h : Heap} {k : Nat}
 {E : Value → Shared → Prop} {Q : Flow → Shared → Prop} {rest : List Stmt}
theorem Gl.ext {mg mb : Str → Option Value} (G : Gl B mg mb) (X : zR B B') : Gl B' mg mb:=⟨G.g.keeps X,G.b.keeps X,G.lim.keeps X⟩
theorem ze {c : Value} {q : Str} (x : B.CodeRec c q) (X : zR B B') : B'.CodeRec c q:=by
 obtain ⟨c,oc,us,t,e1,e2,e3,e4⟩:=x
 exact ⟨c,oc,us,t,e1,X _ _ e2,e3,e4⟩
theorem zi.ext {mg : Str → Option Value} {name : Str} {d : Stmt} {f : Addr} {fd : FuncData} (H : zi B mg name d f fd) (X : zR B B') : zi B' mg name d f fd :=
 ⟨H.g,by obtain ⟨o,e,q⟩:=H.get; exact ⟨o,X _ _ e,q⟩,ze H.code X,H.ok,H.args,H.body,H.scope,H.clo⟩
theorem xn (wr : List Addr) (X : zR B h) (hw : ∀ a ∈ wr,B.get? a = none) : zR B (hideAll h wr):=fun a o e => hideAll_get _ (X a o e) fun z => by rw [hw a z] at e; cases e
theorem yO (wr : List Addr) : zR (hideAll h wr) h:=fun a o e => of_hideAll _ e
theorem xl (wr : List Addr) {a : Addr} (z : a ∈ wr) : (hideAll h wr).get? a = none:=hideAll_none _ z
end
structure Z6 (fd : FuncData) (params : Arguments) (body : FuncBody) (scope : Scope) (qual : Str) (c' : Addr) (cl : List (Str × Addr)) : Prop where
 glob : fd.globals = mainGlobals
 bl : fd.builtins = builtinsNs
 par : fd.params = params
 bod : fd.body = body
 sco : fd.scope = scope
 clo : fd.closure = cl
 code : fd.code = .ref c'
 qn : fd.qualname = qual
 dfl : fd.defaults = .none
 kwd : fd.kwdefaults = .none
noncomputable def Bm (B : Heap) (mg : Str → Option Value) : Prop:=∃ bm o,mg "__builtins__" = some (.ref bm) ∧ bm ≠ builtinsNs ∧ bm ≠ mainGlobals ∧ B.get? bm = some o ∧ o.cls = .type "module" ∧ o.dict = some builtinsNs ∧ o.data = .plain
noncomputable def vV (oc : Obj) (q : Str) : Prop:=∃ vs t,oc.data = .fields vs ∧ vs[1]? = some (.str q t)
noncomputable def yN (qs : List (Pos × Str)) (ps : Array Value) (os : List (Addr × Obj)) : Prop :=
 TriplesOk ps.toList ∧ ∀ q ∈ qs,codeAmong q.1 ps.toList = none ∨ ∃ c' oc,codeAmong q.1 ps.toList = some (.ref c') ∧ (c',oc) ∈ os ∧ vV oc q.2
noncomputable def wb (qs : List (Pos × Str)) : Bool:=qs.all fun p => qs.all fun q => !(p.1.line == q.1.line && p.1.col == q.1.col) || p.2 == q.2
theorem xt (pos : Pos) (a b : Int) (t u : Tok) (c : Value) (l : List Value) : codeAmong pos (.int a t :: .int b u :: c :: l) = if (a == pos.line && b == pos.col) = true then some c else codeAmong pos l:=rfl
theorem jq {pos : Pos} {a b : Int} {c : Value} (l : List Value) (h : TriplesOk l) (hn : (a == pos.line && b == pos.col) = false) : codeAmong pos (l ++ [rawInt a,rawInt b,c]) = codeAmong pos l:=by
 fun_induction TriplesOk l with
 | case1 => exact (xt pos a b _ _ c []).trans (if_neg (by rw [hn]; decide))
 | case2 a' t b' u x rest ih =>
  refine (xt pos a' b' t u x _).trans ((?_ : _ = _).trans (xt pos a' b' t u x rest).symm)
  rw [show rest.append [rawInt a,rawInt b,c] = rest ++ [rawInt a,rawInt b,c] from rfl,ih h]
 | case3 l h1 h2 => exact h.elim
theorem yN.nil (qs : List (Pos × Str)) : yN qs #[] []:=⟨trivial,fun _ _ => .inl rfl⟩
theorem yN.more {qs : List (Pos × Str)} {ps : Array Value} {os : List (Addr × Obj)} (T : yN qs ps os) (ha : wb qs = true) {pos : Pos} {qual : Str} (hq : (pos,qual) ∈ qs) (hn : codeAmong pos ps.toList = none) {c' : Addr} {oc : Obj} (hc : vV oc qual) :
   yN qs (ps ++ #[rawInt pos.line,rawInt pos.col,.ref c']) ((c',oc) :: os):=by
 refine ⟨by rw [Array.toList_append]; exact TriplesOk_snoc _ _ _ _ T.1,fun q hq' => ?_⟩
 rw [Array.toList_append]
 by_cases hs : (((pos.line : Int) == q.1.line) && ((pos.col : Int) == q.1.col)) = true
 · have h1:=List.all_eq_true.mp (List.all_eq_true.mp ha _ hq) _ hq'
   have hl : pos.line = q.1.line ∧ pos.col = q.1.col:=by
     simp only [Bool.and_eq_true,beq_iff_eq] at hs; omega
   have hqq : qual = q.2:=by simpa [hl.1,hl.2] using h1
   refine .inr ⟨c',oc, ?_,.head _,hqq ▸ hc⟩
   have e:=codeAmong_snoc (pos:=q.1) (c:=.ref c') ps.toList T.1 ?_
   · rw [hl.1,hl.2]; exact e
   · have : ∀ l,codeAmong q.1 l = codeAmong pos l:=fun l => by
      fun_induction codeAmong pos l with
      | case1 a t b u c rest h => simp only [codeAmong]; rw [← hl.1,← hl.2,if_pos h]
      | case2 a t b u c rest h ih => simp only [codeAmong]; rw [← hl.1,← hl.2,if_neg h]; exact ih
      | case3 l h => rw [codeAmong]; exact h
     rw [this]; exact hn
 · have e:=jq (pos:=q.1) (a:=(pos.line : Int)) (b:=(pos.col : Int)) (c:=.ref c') ps.toList T.1 (by simpa using hs)
   rcases T.2 q hq' with h | ⟨c₂,o₂,h1,h2,h3⟩
   · exact .inl (e.trans h)
   · exact .inr ⟨c₂,o₂,e.trans h1,.tail _ h2,h3⟩
section
variable {prog : Program} {w : World} {A : Around} {B : Heap} {s₀ s : Shared} {Own₀ M₀ Own M : Addr → Prop} {names : zJ} {env : Env} {ρ : List (Str × RV)} {μ : List (Addr × D)} {h : Heap} {k : Nat}
 {E : Value → Shared → Prop}
structure J7 (prog : Program) (w : World) (h : Heap) (M : Addr → Prop) (scope : Scope) (ρ : List (Str × RV)) (cl : List (Str × Addr)) : Prop where
 has : ∀ x c,cl.lookup x = some c → ∃ v,h.IsCell c v
 cap : ∀ x r,(x,r) ∈ xV scope.names ρ → ∃ c v,cl.lookup x = some c ∧ h.IsCell c (some v) ∧ zm prog w h M v r ∧ (x == ("__classdict__" : Str)) = false
 free : ∀ x,(x,NameKind.free) ∈ scope.names → (cl.lookup x).isSome = true
 apart : ∀ x y c,cl.lookup x = some c → cl.lookup y = some c → x = y
theorem kc {scope : Scope} (S : En prog w B names env h M ρ μ) (hc : yH names scope = true) {cl : List (Str × Addr)} (h1 : ∀ x c,cl.lookup x = some c → env.cells.lookup x = some c) (h2 : ∀ x,(x,NameKind.free) ∈ scope.names → (cl.lookup x).isSome = true) : J7 prog w h M scope ρ cl:=by
 have O:=vo hc
 refine ⟨fun x c e => S.celled x c (h1 x c e),fun x r hm => ?_,h2,fun x y c hx hy => S.n.apart x y c (h1 x c hx) (h1 y c hy)⟩
 have hm2:=List.mem_filter.mp hm
 have hfree : scope.names.lookup x = some .free:=by simpa using hm2.2
 obtain ⟨v,hv,hr⟩:=S.vars x r hm2.1
 have hmf:=mem_of_lookup hfree
 obtain ⟨ho,hcd⟩:=O.free x hmf
 rcases hv with ⟨a,_⟩ | ⟨_,c,e,q⟩
 · exfalso
   rcases ho with ho | ho
   · rw [S.n.ce x ho] at a; cases a
   · rcases S.n.fr x ho with q | q <;> (rw [q] at a; cases a)
 · obtain ⟨c',hc'⟩:=Option.isSome_iff_exists.mp (h2 x hmf)
   have:=h1 x c' hc'
   rw [e] at this; cases this
   exact ⟨c,v,hc',q,hr,hcd⟩
noncomputable def qm (scope : Scope) : Bool:=scope.kind == .function && !scope.isCoroutine && !scope.isGenerator && (scope.names.all fun p => p.2 != .cell || scope.names.lookup p.1 == some .cell)
theorem WB {fd : FuncData} {params : Arguments} {body : FuncBody} {scope : Scope} {qual : Str} {c' : Addr} {cl : List (Str × Addr)} (F : Z6 fd params body scope qual c' cl) (hf : qm scope = true) (h2 : ∀ x,(x,NameKind.free) ∈ scope.names → (cl.lookup x).isSome = true) (h3 : ∀ x y c,cl.lookup x = some c → cl.lookup y = some c → x = y) : jx fd:=by
 simp only [qm,Bool.and_eq_true] at hf
 obtain ⟨⟨⟨f1,f2⟩,f3⟩,f4⟩:=hf
 refine ⟨F.glob,F.bl,by rw [F.sco]; simpa using f1,by rw [F.sco]; simpa using f2,by rw [F.sco]; simpa using f3,fun x hx => ?_,fun x hx => ?_,fun x y c e e' => ?_⟩
 · rw [F.clo]; rw [F.sco] at hx; exact h2 x hx
 · rw [F.sco] at hx ⊢
   have:=List.all_eq_true.mp f4 _ hx; simpa using this
 · rw [F.clo] at e e'; exact h3 x y c e e'
theorem Qx {pre post : List (Addr × D)} {P : Addr} {ps ps' : Array Value} {os : List (Addr × Obj)} (S : St prog w B s₀ Own₀ M₀ names env Own M ρ (pre ++ (P,.obs P (tabObj ps) os) :: post) s) (ho : Own P)
   {h' : Heap} {tk : Nat} {c' : Addr} {qual : Str} {fo : Obj} (hx : Heap.ExtBut P s.heap h') (hge : s.heap.objs.size ≤ c') (hlt : c' < h'.objs.size) (hrec : h'.CodeRec (.ref c') qual) (htb : h'.get? P = some (tabObj ps')) (hfr : fo.isFreed = false:=by rfl) :
   ∃ oc,vV oc qual ∧ St prog w B s₀ Own₀ M₀ names env Own M ρ (pre ++ (P,.obs P (tabObj ps') ((c',oc) :: os)) :: post) { s with heap:=h'.push fo,toks:=tk } ∧ Rp prog w (h'.push fo) M (.ref h'.objs.size) (.obs h'.objs.size fo [(c',oc)]):=by
 obtain ⟨c₂,oc,vs,t,e2,hoc,hd,hv⟩:=hrec
 cases e2
 have hnM : ∀ b,s.heap.objs.size ≤ b → ¬ M b:=fun b hb m => by obtain ⟨o,e⟩:=S.e.old b m; exact absurd (Heap.lt_size e) (Nat.not_lt.mpr hb)
 have hc0:=S.e.mem P _ (List.mem_append_right _ (.head _))
 refine ⟨oc,⟨vs,t,hd,hv⟩,S.effect1 rfl ho (fun b o n e => Heap.get?_push_of_some _ (hx b o n e)) (.tab (Heap.get?_push_of_some _ htb) fun p hp => ?_),.obs (Heap.get?_push_size _ hfr) (hnM _ (Nat.le_trans hge (Nat.le_of_lt hlt))) fun p hp => ?_⟩
 · rcases List.mem_cons.mp hp with rfl | hp
   · exact ⟨Heap.get?_push_of_some _ hoc,hnM _ hge⟩
   · cases hc0 with
     | tab _ r =>
      refine ⟨Heap.get?_push_of_some _ (hx _ _ (fun q => (r p hp).2 (q ▸ S.own P ho)) (r p hp).1),(r p hp).2⟩
 · cases List.mem_singleton.mp hp
   exact ⟨Heap.get?_push_of_some _ hoc,hnM _ hge⟩
theorem KI {pre post : List (Addr × D)} {P : Addr} {ps : Array Value} {os : List (Addr × Obj)} (S : St prog w B s₀ Own₀ M₀ names env Own M ρ (pre ++ (P,.obs P (tabObj ps) os) :: post) s)
  {h' : Heap} {tk : Nat} {c' : Addr} {oc : Obj} {fo : Obj} (hx : zR s.heap h') (hge : s.heap.objs.size ≤ h'.objs.size) (hm : (c',oc) ∈ os) (hfr : fo.isFreed = false:=by rfl) :
  St prog w B s₀ Own₀ M₀ names env Own M ρ (pre ++ (P,.obs P (tabObj ps) os) :: post) { s with heap:=h'.push fo,toks:=tk } ∧ Rp prog w (h'.push fo) M (.ref h'.objs.size) (.obs h'.objs.size fo [(c',oc)]):=by
 have kk : Keeps s { s with heap:=h'.push fo,toks:=tk }:=⟨h'.push fo,tk,rfl,fun a o e => Heap.get?_push_of_some _ (hx a o e)⟩
 have hnM : ∀ b,s.heap.objs.size ≤ b → ¬ M b:=fun b hb m => by obtain ⟨o,e⟩:=S.e.old b m; exact absurd (Heap.lt_size e) (Nat.not_lt.mpr hb)
 have hc0:=S.e.mem P _ (List.mem_append_right _ (.head _))
 refine ⟨S.step kk,.obs (Heap.get?_push_size _ hfr) (hnM _ hge) fun p hp => ?_⟩
 cases List.mem_singleton.mp hp
 cases hc0 with
 | tab _ r => exact ⟨Heap.get?_push_of_some _ (hx _ _ (r _ hm).1),(r _ hm).2⟩
structure Tb (B : Heap) (mg : Str → Option Value) (env : Env) (P : Addr) (qs : List (Pos × Str)) : Prop where
 gl : ∃ mb,Gl B mg mb
 bm : Bm B mg
 code : ∃ c,env.code = .ref c ∧ CodeHd B c P
 ap : wb qs = true
theorem Tb.ne {mg : Str → Option Value} {P : Addr} {qs : List (Pos × Str)} (T : Tb B mg env P qs) (S : St prog w B s₀ Own₀ M₀ names env Own M ρ μ s) (ho : Own P) : mainGlobals ≠ P ∧ s.heap.BuiltinsAt mg P:=by
 obtain ⟨mb,G⟩:=T.gl
 obtain ⟨bm,o,b1,b2,b3,b4,b5,b6,b7⟩:=T.bm
 have hn:=S.base P ho
 refine ⟨fun q => ?_,bm,o,b1,b2,b3,fun q => ?_,S.e.base _ _ b4,b5,b6,b7⟩
 · obtain ⟨o,es,ep,e,_⟩:=G.g
   rw [q,hn] at e; cases e
 · rw [q,hn] at b4; cases b4
theorem XT {mg : Str → Option Value} {P : Addr} {qs : List (Pos × Str)} {pre post : List (Addr × D)} {ps : Array Value} {os : List (Addr × Obj)} (T : Tb B mg env P qs) (S : St prog w B s₀ Own₀ M₀ names env Own M ρ (pre ++ (P,.obs P (tabObj ps) os) :: post) s) (ho : Own P)
   {params : Arguments} {body : Expr} {scope : Scope} {pos : Pos} (hT : yN qs ps os) (hq : (pos,env.qual ++ "<lambda>") ∈ qs) (hdef : defaultsOf params env = ([],[])) (hc : yH names scope = true) {Q : Value → Shared → Prop}
   (hQ : ∀ f fo fd c' oc cl ps' os' s',fo.data = .func fd → Z6 fd params (.expr body) scope (env.qual ++ "<lambda>") c' cl → vV oc (env.qual ++ "<lambda>") → yN qs ps' os' → J7 prog w s'.heap M scope ρ cl →
    St prog w B s₀ Own₀ M₀ names env Own M ρ (pre ++ (P,.obs P (tabObj ps') os') :: post) s' → Rp prog w s'.heap M (.ref f) (.obs f fo [(c',oc)]) → Yb [P] s s' → Q (.ref f) s') :
   wpAny (model prog w) A (eval (.Lambda params body scope pos) env) Q E s:=by
 obtain ⟨cl,hcl,h1,h2⟩:=xM S.e.n hc
 obtain ⟨hgP,hb⟩:=T.ne S ho
 obtain ⟨mb,G⟩:=T.gl
 obtain ⟨c,hcode,C⟩:=T.code
 have hPt : s.heap.get? P = some (tabObj ps):=by
   have:=S.e.mem P _ (List.mem_append_right _ (.head _))
   cases this with | tab p _ => exact p
 have hg:=G.g.keeps S.e.base
 refine kla_eval hdef ?_
 rcases hT.2 _ hq with hn | ⟨c',oc,hf,hm,hco⟩
 · refine kla_makeFunction (mg:=mg) hcl S.e.n.glob hg hcode (C.keeps S.e.base) hPt hT.1 hn hgP hb fun c' ctv h' tk hx hge hlt hrec htb => ?_
   obtain ⟨oc,hco,S',r⟩:=Qx S ho (tk:=tk) (fo:=kla_obj "<lambda>" (env.qual ++ "<lambda>") params body scope cl ((mg "__name__").getD .none) c' ctv) hx hge hlt hrec htb
   refine hQ _ _ _ c' oc cl _ _ _ rfl ⟨rfl,rfl,rfl,rfl,rfl,rfl,rfl,rfl,rfl,rfl⟩ hco (hT.more T.ap hq hn hco) (kc S'.e hc h1 h2) S' r ⟨_,_,rfl,fun a o n e => Heap.get?_push_of_some _ (hx a o (by simpa using n) e)⟩
 · refine kla_makeFunctionHit (mg:=mg) hcl S.e.n.glob hg hcode (C.keeps S.e.base) hPt hT.1 hf hb fun ctv h' tk hx hsz => ?_
   obtain ⟨S',r⟩:=KI S (tk:=tk) (fo:=kla_obj "<lambda>" (env.qual ++ "<lambda>") params body scope cl ((mg "__name__").getD .none) c' ctv) hx hsz hm
   have kx : zR s.heap (h'.push (kla_obj "<lambda>" (env.qual ++ "<lambda>") params body scope cl ((mg "__name__").getD .none) c' ctv)):=fun a o e => Heap.get?_push_of_some _ (hx a o e)
   refine hQ _ _ _ c' oc cl _ _ _ rfl ⟨rfl,rfl,rfl,rfl,rfl,rfl,rfl,rfl,rfl,rfl⟩ hco hT (kc S'.e hc h1 h2) S' r ⟨_,_,rfl,fun a o n e => kx a o e⟩
inductive jI (prog : Program) (w : World) (A : Around) (h : Heap) (env : Env) (M : Addr → Prop) : List Expr → List RV → Prop
 | nil : jI prog w A h env M [] []
 | cons {e : Expr} {es : List Expr} {r : RV} {rs : List RV} : Ev prog w A h e env (fun h' v => zm prog w h' M v r) → jI prog w A h env M es rs → (∀ rest,starEach (e :: rest) env = (false,eval e env) :: starEach rest env) → jI prog w A h env M (e :: es) (r :: rs)
theorem jI.noStar {es : List Expr} {rs : List RV} {pos : Pos} (x : jI prog w A h env M es rs) : (backTo pos (starEach es env)).any (·.1) = false:=by
 induction x with
 | nil => rfl
 | cons _ _ hs ih =>
  rw [hs]
  show (false || _) = false
  rw [Bool.false_or]; exact ih
theorem vv {es : List Expr} {rs : List RV} {pos : Pos} (x : jI prog w A h env M es rs) : ∀ (s : Shared) (E : Value → Shared → Prop) (Q : List Value → Shared → Prop),zR h s.heap →
  (∀ vs s',Keeps s s' → zP prog w s'.heap M vs rs → Q vs s') → wpAny (model prog w) A (spliced (backTo pos (starEach es env))) Q E s:=by
 induction x with
 | nil => intro s E Q k hQ; exact spliced_nil (hQ [] s (zF s) .nil)
 | @cons e es d ds hv _ hs ih =>
  intro s E Q k hQ
  rw [hs]
  show wpAny _ _ (spliced ((false,eval e env) :: backTo pos (starEach es env))) Q E s
  refine spliced_cons (hv s E _ k fun v s₁ k₁ r => ?_)
  exact ih s₁ E _ (k.trans (ke k₁)) fun vs s₂ k₂ rs => hQ _ s₂ (zA k₁ k₂) (.cons (r.ext (ke k₂)) rs)
theorem v7 {f : Value} {es : List Expr} {rs : List RV} {pos : Pos} (x : jI prog w A h env M es rs) {s : Shared} {Q : Args → Shared → Prop} (k : zR h s.heap)
  (hQ : ∀ vs s',Keeps s s' → zP prog w s'.heap M vs rs → Q ⟨vs,[]⟩ s') : wpAny (model prog w) A (evalArgs f true (backTo pos (starEach es env)) []) Q E s:=by
 have key:=vv (pos:=pos) x s E (fun vs s' => Q ⟨vs,[]⟩ s') k hQ
 cases x with
 | nil => exact evalArgs_nil3 (hQ [] s (zF s) .nil)
 | cons hv _ hs =>
  rw [hs] at key ⊢
  exact evalArgs_plain key
theorem xj {fx : Str} {fp pos : Pos} {f : Value} {es : List Expr} {rs : List RV} (S : En prog w B names env s.heap M ρ μ) (hf : Ev prog w A s.heap (.Name fx fp) env (fun _ u => u = f)) (K : Zf B f) (hx : jI prog w A s.heap env M es rs) {Q : Value → Shared → Prop}
  (hQ : ∀ vs s',Keeps s s' → zP prog w s'.heap M vs rs → wpAny (model prog w) A (PySem.call f vs) Q E s') : wpAny (model prog w) A (eval (.Call (.Name fx fp) es [] pos) env) Q E s:=by
 refine wpAny_Call_Name_kw (hf s E _ (zR.refl _) fun u s₁ k₁ e => ?_)
 subst e
 refine callWith_of (P:=zR B) (by show ((backTo pos (starEach es env)).any (·.1) || false) = false; rw [hx.noStar]; rfl) (fun h' X => xT K h' X) (v7 hx (ke k₁) fun vs s₂ k₂ rs => ?_)
 exact ⟨S.base.trans (ke (zA k₁ k₂)),hQ vs s₂ (zA k₁ k₂) rs⟩
theorem xo {fx kn : Str} {fp pos kp : Pos} {f : Value} {e0 ke0 : Expr} {es : List Expr} {rs : List RV} (S : En prog w B names env s.heap M ρ μ) (hf : Ev prog w A s.heap (.Name fx fp) env (fun _ u => u = f)) (K : Zf B f) (hx : jI prog w A s.heap env M (e0 :: es) rs) {Q : Value → Shared → Prop}
  (he : starEach (e0 :: es) env = (false,eval e0 env) :: starEach es env)
  (hQ : ∀ vs s',Keeps s s' → zP prog w s'.heap M vs rs → wpAny (model prog w) A (eval ke0 env) (fun kv s₂ => zR B s₂.heap ∧ wpAny (model prog w) A (PySem.call f vs [(kn,kv)]) Q E s₂) E s') :
  wpAny (model prog w) A (eval (.Call (.Name fx fp) (e0 :: es) [⟨some kn,ke0,kp⟩] pos) env) Q E s:=by
 refine wpAny_Call_Name_kw (hf s E _ (zR.refl _) fun u s₁ k₁ e => ?_)
 subst e
 refine callWith_of (P:=zR B) (by rw [hx.noStar]; rfl) (fun h' X => xT K h' X) ?_
 refine evalArgs_kw2 (by rfl) (vv hx s₁ E _ (ke k₁) fun vs s₂ k₂ rs => ?_) he
 refine kwAll_cons (wpAny_mono (hQ vs s₂ (zA k₁ k₂) rs) (fun kv s₃ q => ?_) fun _ _ x => x)
 exact kwAll_nil q
theorem Zz {fd : FuncData} {f : Addr} {fo : Obj} {params : Arguments} {body : Expr} {scope : Scope} {qual : Str} {c' : Addr} {cl : List (Str × Addr)} {B₀ : Heap} {x : Str} {xs : List D} {step : D → D} (F : Z6 fd params (.expr body) scope qual c' cl) (hf : qm scope = true)
   (hlim : B₀.NoLimit) (XB : zR B₀ B) (hfo : B.get? f = some fo) (hfd : fo.data = .func fd) (hco : B.CodeRec (.ref c') qual) (K : J7 prog w B M₀ scope ρ cl)
   (hb : ∀ v s,BindsTo s fd ⟨[v],[]⟩ [(x,v)]) (hx : zY scope.names x = true)
   (ev : ∀ d ∈ xs,∀ A env h M,Rm A k → En prog w B scope.names env h M ((x,.dat d) :: xV scope.names ρ) [] → Ev prog w A h body env (PS prog w M (step d))) :
   ya prog w (k + 1) B M₀ f xs (fun _ : Unit => True) (fun _ => []) (fun c d => (c,step d)):=by
 intro A M s E Q c d v R _ X hM hM₁ old hd rv _ hQ
 have hto : ∀ a o,¬ M₀ a → B.get? a = some o → s.heap.get? a = some o ∧ ¬ M a:=fun a o n e => ⟨X a o e,fun m => n (hM a o m e)⟩
 refine wpAny_call (KL (M₀:=M) (Own₀:=fun _ => False) (B:=B) (μ₀:=[]) (ρ₀:=(x,.dat d) :: xV scope.names ρ) (WB F hf K.free K.apart) R (X f fo hfo) hfd (hlim.keeps XB) X (by rw [F.code,F.qn]; exact ze hco X) F.bod (hb v s) (by simp) ?_ old (fun _ z => z.elim) (fun y c e => ?_) ?_ (fun _ _ m => by cases m) List.nodup_nil ?_)
 · rw [F.sco]; simp [hx]
 · rw [F.clo] at e; obtain ⟨u,q⟩:=K.has y c e; exact ⟨u,q.keeps X⟩
 · intro y r hm
   rcases List.mem_cons.mp hm with e | hm
   · cases e; exact .inl ⟨v,.head _,rv⟩
   · obtain ⟨c,u,e1,e2,e3,e4⟩:=K.cap y r hm
     refine .inr ⟨?_,e4,c,u,by rw [F.clo]; exact e1,e2.keeps X,e3.to hto⟩
     rw [F.sco]
     simpa using (List.mem_filter.mp hm).2
 · intro env Own M' s₁ _ R' _ _ S
   rw [F.sco] at S
   refine ev d hd _ env s₁.heap M' R' S.e s₁ _ _ (zR.refl _) fun r s₂ k₂ rr => ?_
   obtain ⟨h₂,tk₂,rfl,kk⟩:=k₂
   obtain ⟨h',tk,e⟩:=S.same
   refine hQ r _ ⟨h₂,tk₂,by rw [e],fun a o _ q => ?_⟩ (fun _ _ m => by cases m) (rr.less S.more)
   have:=S.keep a o (fun z => z) q
   exact kk a o this
end
section
variable {prog : Program} {w : World} {A : Around} {B B' : Heap} {s₀ s : Shared} {Own₀ M₀ Own M M₁ M₁' : Addr → Prop} {names : zJ} {env : Env} {ρ : List (Str × RV)} {μ : List (Addr × D)} {h : Heap} {k : Nat}
 {E : Value → Shared → Prop} {Q : Flow → Shared → Prop} {rest : List Stmt}
theorem ya.base {f : Addr} {xs xs' : List D} {τ : Type} {P : τ → Prop} {μk : τ → List (Addr × D)} {step : τ → D → τ × D} (K : ya prog w k B M₁ f xs P μk step) (X : zR B B') (h1 : ∀ a o,M₁' a → B.get? a = some o → M₁ a) (h2 : ∀ a,M₁ a → M₁' a) (hs : ∀ d ∈ xs',d ∈ xs) : ya prog w k B' M₁' f xs' P μk step:=by
 intro A M s E Q c d v R hP XB hM hM₁ old hd rv hμ hQ
 exact K A M s E Q c d v R hP (X.trans XB) (fun a o m e => h1 a o (hM a o m (X a o e)) e) (fun a m => hM₁ a (h2 a m)) old (hs d hd) rv hμ hQ
theorem ya.le {f : Addr} {xs : List D} {τ : Type} {P : τ → Prop} {μk : τ → List (Addr × D)} {step : τ → D → τ × D} {j : Nat} (K : ya prog w k B M₁ f xs P μk step) (h : k ≤ j) : ya prog w j B M₁ f xs P μk step:=by
 intro A M s E Q c d v R
 exact K A M s E Q c d v (R.le h)
theorem Ev.key {f : Addr} {fo : Obj} {fd : FuncData} {xs : List D} {step : D → D} (S : En prog w B names env h M ρ μ) (R : Rm A k) {x : Str} {xp pos : Pos} {e : Expr} {d : D} (hx : (x,RV.dat (.ob f fo)) ∈ ρ) (hdb : (x == ("__debug__" : Str)) = false) (hfd : fo.data = .func fd) (hst : ∀ rest,starEach (e :: rest) env = (false,eval e env) :: starEach rest env)
   (he : Ev prog w A h e env (PS prog w M d)) (hd : d ∈ xs) (K : ya prog w k B M₁ f xs (fun _ : Unit => True) (fun _ => []) (fun c d => (c,step d))) (hM : ∀ a o,M a → B.get? a = some o → M₁ a) (hM₁ : ∀ a,M₁ a → M a) :
   Ev prog w A h (.Call (.Name x xp) [e] [] pos) env (PS prog w M (step d)):=by
 intro s E Q kx hQ
 refine wpAny_Call_Name_kw (Ev.var S hx hdb s E _ kx fun u s₁ k₁ r => ?_)
 obtain ⟨rfl,ef,mf⟩:=Rp.ob_inv r
 have hx1 : ZU prog w A h env M [e] [d]:=.cons he .nil hst
 refine callWith_of (P:=fun h => h.get? f = some fo) (by show ((backTo pos (starEach [e] env)).any (·.1) || false) = false; rw [hx1.rd.noStar]; rfl) (fun h' X => ⟨.frame,.inl rfl, ?_⟩) (wX hx1 (kx.trans (ke k₁)) fun vs s₂ k₂ rs => ?_)
 · refine (Looks.ld (part:=none) X).andThen ?_
   rw [hfd]
   exact Looks.now
 · refine ⟨ke k₂ _ _ ef, ?_⟩
   have X:=kx.trans (ke (zA k₁ k₂))
   cases rs with | cons rv rs => cases rs with | nil =>
   refine K A M s₂ E Q () d _ R trivial (S.base.trans X) hM hM₁ (fun a m => by obtain ⟨o,e⟩:=S.old a m; exact ⟨o,X a o e⟩) hd rv (fun a y hm => by cases hm) fun r' s' ef' _ rr => hQ r' s' (zA (zA k₁ k₂) ?_) rr
   obtain ⟨h',tk,rfl,kk⟩:=ef'
   exact ⟨h',tk,rfl,fun a o e => kk a o (by simp) e⟩
theorem wU {x : Str} {p pos : Pos} {e : Expr} (hs : swapsWith e (some (.Name x p)) pos.line env = pure false) (hx : zY names x = true)
  (hv : wpAny (model prog w) A (eval e env) (fun v s₁ => ∃ Own M ρ μ r,St prog w B s₀ Own₀ M₀ names env Own M ρ μ s₁ ∧ zm prog w s₁.heap M v r ∧ ∀ s',St prog w B s₀ Own₀ M₀ names env Own M ((x,r) :: XJ x ρ) μ s' → wpAny (model prog w) A (execs rest env) Q E s') E s) :
  wpAny (model prog w) A (execs (.Assign [.Name x p] e pos :: rest) env) Q E s :=
 wpAny_execs_cons (wpAny_Assign_Name (wpAny_mono hv (fun v s₁ q => by obtain ⟨Own,M,ρ,μ,r,S,hr,k⟩:=q; exact S.store hr hx fun s' S' => k s' S') fun _ _ e => e) hs)
theorem xk {pos : Pos} {e : Expr} (N : vH names env) (hv : wpAny (model prog w) A (eval e env) (fun _ s₁ => wpAny (model prog w) A (execs rest env) Q E s₁) E s) (hs : swapsWith e none pos.line env = pure false:=by rfl) :
  wpAny (model prog w) A (execs (.Expr e pos :: rest) env) Q E s :=
 wpAny_execs_cons (wpAny_Expr_any hv (by simp [interactive,N.fn]) hs)
end
section
variable {prog : Program} {w : World} {A : Around} {B : Heap} {s₀ s : Shared} {Own₀ M₀ Own M : Addr → Prop} {names : zJ} {env : Env} {ρ : List (Str × RV)} {μ : List (Addr × D)} {h : Heap} {k : Nat}
 {E : Value → Shared → Prop} {Q : Flow → Shared → Prop} {rest : List Stmt}
theorem Zb : ∀ (l : List (Array Value)) (acc : Array Value),l.foldl (fun a b => a ++ b) acc = acc ++ (l.map Array.toList).flatten.toArray
 | [],acc => by simp
 | x :: l,acc => by
  rw [List.foldl_cons,Zb l]
  apply Array.ext'
  simp
noncomputable def k9 {α : Type} (n : Nat) (xs : List α) : List α:=(List.replicate n xs).flatten
theorem zE.rep {h : Heap} {vs : List Value} {ds : List D} (r : zE prog w h M vs ds) : ∀ n,zE prog w h M (k9 n vs) (k9 n ds)
 | 0 => .nil
 | n + 1 => by
  show zE prog w h M (List.replicate (n + 1) vs).flatten (List.replicate (n + 1) ds).flatten
  rw [List.replicate_succ,List.replicate_succ,List.flatten_cons,List.flatten_cons]
  exact r.append (zE.rep r n)
theorem Qv {a n : Value} {xs : List D} {i : Int} {Q : Value → Shared → Prop} (ra : Rd prog w s.heap M a (.list xs)) (rn : Rd prog w s.heap M n (.int i)) (h00 : 0 ≤ i) (h0 : i ≤ 1000) (hl : xs.length ≤ 1000)
  (hQ : ∀ vs,zE prog w s.heap M vs (k9 i.toNat xs) → Q (.ref s.heap.objs.size) { s with heap:=s.heap.push { cls:=.type "list",data:=.seq vs.toArray 0 } }) : wpAny (model prog w) A (binaryOp .Mult a n) Q E s:=by
 obtain ⟨l,vs,rfl,⟨k,ho⟩,r⟩:=ra.list_inv
 obtain ⟨u,rfl⟩:=rn.int_inv
 have hlen:=r.length
 have hm : vs.length * i.toNat ≤ 1000 * 1000:=Nat.mul_le_mul (by omega) (by omega)
 refine wpAny_binaryOp_repeat_ref (T := "list") (U := "int") (by decide) ⟨_,ho,rfl⟩ (fun s' => typeIs_int s' i u) noFill_list_mul F.fills_int_mul F.slot_int_rmul repeat_list F.slot_int_index.lookup
  (call_meets F.slot_int_rmul (typeIs_int s i u) F.entry_int_rmul (F.args_int_rmul_2 _ _) (int___rmul___int_list i u l vs.toArray k) ⟨ho,rfl,⟨_,ho,rfl⟩,call_meets F.slot_list_mul ⟨_,ho,rfl⟩ F.entry_list_mul (F.args_list_mul_2 _ _)
   (lm_list_mul_any l vs.toArray k none #[] i u (by simp [Builtin.List.listFitsIndex]; omega) (by rw [List.size_toArray]; omega) (by rw [List.size_toArray]; simp [Builtin.List.listTooLong,sizeLine]; omega)) ⟨ho, ?_⟩⟩)
 have:=hQ (k9 i.toNat vs) (r.rep _)
 have e : List.foldl (fun x1 x2 => x1 ++ x2) #[] (List.replicate (if vs.toArray.isEmpty = true then 0 else i.toNat) vs.toArray) = (k9 i.toNat vs).toArray:=by
  rw [Zb]
  cases vs with
  | nil => apply Array.ext'; simp [k9]
  | cons v vs => apply Array.ext'; simp [k9]
 rw [e]; exact this
theorem jK.mul {h : Heap} {l r : Expr} {p : Pos} {xs : List D} {i : Int} (S : En prog w B names env h M ρ μ) (hl : Ev prog w A h l env (PR prog w M (.list xs))) (hr : Ev prog w A h r env (PR prog w M (.int i))) (h00 : 0 ≤ i) (h0 : i ≤ 1000) (hs : xs.length ≤ 1000) :
  jK prog w A h (.BinOp l .Mult r p) env M (.list (k9 i.toNat xs)):=by
 intro s E Q k hQ
 refine wpAny_BinOp (hl s E _ k fun a s₁ k₁ ra => ?_)
 refine hr s₁ E _ (k.trans (ke k₁)) fun b s₂ k₂ rb => ?_
 have k12:=zA k₁ k₂
 refine Qv (ra.ext (ke k₂)) rb h00 h0 hs fun vs r => hQ _ _ (zA k12 (zQ s₂ _ s₂.toks)) (yj k12 (zS _)) (.list (vs:=vs) ⟨0,Heap.get?_push_size _ rfl⟩ (zE.to (fun a o m e => ⟨Heap.get?_push_of_some _ e,fun z => z.elim m fun q => ?_⟩) r))
 rw [q,zS] at e; cases e
theorem WM {h h' : Heap} {M M' : Addr → Prop} {v : Value} {d : D} (r : Rp prog w h M v d) (f : je d = true) : Rp prog w h' M' v d:=by
 cases r <;> first | (exfalso; simp [je] at f; done) | constructor
theorem XG (S : St prog w B s₀ Own₀ M₀ names env Own M ρ μ s) {x : Str} {xp spos pos : Pos} {ie e : Expr} {a : Addr} {xs : List D} {i : Nat} {I : Int} {d : D} {pre post : List (Addr × D)}
  (hm : (x,RV.adr a) ∈ ρ) (hdb : (x == ("__debug__" : Str)) = false) (ho : Own a) (he : Ev prog w A s.heap e env (PS prog w M d)) (hfl : je d = true)
  (hi : ∀ (Q' : Value → Shared → Prop) s₁,St prog w B s₀ Own₀ M₀ names env Own M ρ μ s₁ → (∀ v s',St prog w B s₀ Own₀ M₀ names env Own M ρ (pre ++ (a,.list xs) :: post) s' → Rp prog w s'.heap M v (.int I) → Q' v s') → wpAny (model prog w) A (eval ie env) Q' E s₁)
  (hI : I = (i : Int)) (hl : i < xs.length) (hz : xs.length ≤ sizeLine) (hs : swapsWith e (some (.Subscript (.Name x xp) ie spos)) pos.line env = pure false)
  (hQ : ∀ s',St prog w B s₀ Own₀ M₀ names env Own M ρ (pre ++ (a,.list (xs.set i d)) :: post) s' → wpAny (model prog w) A (execs rest env) Q E s') :
  wpAny (model prog w) A (execs (.Assign [.Subscript (.Name x xp) ie spos] e pos :: rest) env) Q E s:=by
 refine wpAny_execs_cons (wpAny_Assign_Subscript (he s E _ (zR.refl _) fun v s₁ k₁ rv => ?_) hs)
 refine (Ev.var (S.e.ext (ke k₁)) hm hdb) s₁ E _ (zR.refl _) fun ov s₂ k₂ r => ?_
 cases r
 refine hi _ s₂ (S.step (zA k₁ k₂)) fun iv s₃ S₃ ri => ?_
 obtain ⟨t,rfl⟩:=ri.int_inv
 obtain ⟨us,p,q⟩:=(S₃.e.mem a (.list xs) (by simp)).list_inv
 rw [sizeLine_eq] at hz
 refine qE p hI (by rw [List.size_toArray,q.length]; exact hl) (kJ (by omega) (by omega)) fun h' p' sb => hQ _ ?_
 refine S₃.effect1 rfl ho (fun b o n e => (sb.2 b n).trans e) ?_
 have u:=yX sb (S.own a ho)
 exact .list (vs:=us.set i v) (by simpa using p') ((zE.to u q).set i (WM rv hfl))
noncomputable abbrev xm (l : List Env) : List Addr:=l.filterMap (·.frame)
noncomputable def yl (h : Heap) (l : List Env) : Prop:=∀ env ∈ l,env.scope.kind ≠ .module ∧ ∃ L o,env.frame = some L ∧ h.get? L = some o ∧ ∀ vs,o.data ≠ .fields vs
theorem yl.to {h h' : Heap} {l : List Env} (x : yl h l) (k : ∀ a o,h.get? a = some o → (∀ vs,o.data ≠ .fields vs) → ∃ o',h'.get? a = some o' ∧ o'.data = o.data) : yl h' l:=fun env he => by
 obtain ⟨h1,L,o,h2,h3,h4⟩:=x env he
 obtain ⟨o',e1,e2⟩:=k L o h3 h4
 exact ⟨h1,L,o',h2,e1,fun vs => e2 ▸ h4 vs⟩
theorem yl.ff {h base : Heap} : ∀ {l : List Env},yl h l → (∀ a ∈ xm l,base.get? a = none) → h.FunFrames base l
 | [],_,_ => trivial
 | env :: l,x,hb => by
  obtain ⟨h1,L,o,h2,h3,h4⟩:=x env (.head _)
  have e : xm (env :: l) = L :: xm l:=by simp [xm,h2]
  exact ⟨h1,⟨L,o,h2,hb L (by rw [e]; exact .head _),h3,h4⟩,yl.ff (fun env he => x env (.tail _ he)) fun a ha => hb a (by rw [e]; exact .tail _ ha)⟩
theorem yl.frame {h : Heap} {l : List Env} (x : yl h l) {a : Addr} (ha : a ∈ xm l) : ∃ o,h.get? a = some o ∧ ∀ vs,o.data ≠ .fields vs:=by
 obtain ⟨env,he,e⟩:=List.mem_filterMap.mp ha
 obtain ⟨_,L,o,h2,h3,h4⟩:=x env he
 rw [h2] at e; cases e
 exact ⟨o,h3,h4⟩
noncomputable def Zy (l : List Env) (h h' : Heap) : Prop:=(∀ a o,a ∉ xm l → h.get? a = some o → h'.get? a = some o) ∧ h.UpToSlots h'
theorem Zy.of {l : List Env} {h h' : Heap} (k : (hideAll h (xm l)).StaysIn h') (u : h.UpToSlots h') : Zy l h h':=⟨fun a o n e => k a o (hideAll_get _ e n),u⟩
noncomputable def WN (h₁ : Heap) (l₁ l : List Env) (e : Addr) (cls : String) (h : Heap) : Prop:=(∃ a0,Heap.FlyingW (hideAll h₁ (xm l₁)) l e (.type cls) a0 h) ∧ h₁.UpToSlots h
theorem Va {M' : Model} {l : List Env} {L e : Addr} {cls : String} {h₁ : Heap} {E : Value → Shared → Prop} {Q : Unit → Shared → Prop} (hfr : A.frames = some (env :: l)) (hf : env.frame = some L) (ok : yl h₁ (env :: l)) (hx : Heap.NewExc h₁ s.heap e cls)
  (hQ : ∀ h',WN h₁ (env :: l) l e cls h' → Q () { s with heap:=h' }) : wpAny M' A (leaving env (.ref e)) Q E s:=by
 obtain ⟨ob,t,he,hcls,hd⟩:=hx.there
 have ok' : yl s.heap (env :: l):=ok.to fun a o e _ => ⟨o,hx.keeps a o e,rfl⟩
 have hen : (hideAll h₁ (xm (env :: l))).get? e = none:=by
  cases q : (hideAll h₁ (xm (env :: l))).get? e with
  | none => rfl
  | some o => have z:=hx.new; rw [of_hideAll _ q] at z; cases z
 refine wpAny_leaving_firstW (base:=hideAll h₁ (xm (env :: l))) hfr (ok'.ff fun a ha => hideAll_none _ ha) hf he (fun a o q => hx.keeps a o (of_hideAll _ q)) hen hd rfl rfl fun h' hL => ?_
 obtain ⟨k1,⟨_,_,k2⟩,k3,k4⟩:=hL
 rw [hcls] at k3
 exact hQ h' ⟨⟨_,k1,hen,k2,k3⟩,(Heap.UpToSlots.of_keeps hx.keeps).trans k4⟩
theorem KT {l l₁ : List Env} {L e : Addr} {cls : String} {h₁ : Heap} {t : Expr} {b₀ : Stmt} {suite : List Stmt} {pos : Pos} {hs : List ExceptHandler} (hfr : A.frames = some (env :: l)) (hf : env.frame = some L) (F : WN h₁ l₁ (env :: l) e cls s.heap)
   (hexc : isSubtype (.type cls) (.type "BaseException") = pure true) (hnt : isSubtype (.type ((Manifest.find? cls).elim "type" fun x => x.metatype)) (.type "tuple") = pure false) (hsub : isSubtype (.type cls) (.type cls) = pure true)
   (ht : ∀ (s' : Shared) (E' : Value → Shared → Prop) (Q' : Value → Shared → Prop),zR (hideAll h₁ (xm l₁)) s'.heap → Q' (.type cls) s' → wpAny (model prog w) (A.mark (some (.ref e))) (eval t env) Q' E' s') (hE : PassesOwnAt (model prog w) (A.mark (some (.ref e))) A env E)
   (hQ : ∀ h',Zy l₁ h₁ h' → wpAny (model prog w) (A.mark (some (.ref e))) (execs (b₀ :: suite) env) Q E { s with heap:=h' }) :
   wpAny (model prog w) A (noteFrame (.ref e) env) (fun _ s₂ => wpAny (model prog w) A (setFlight (.ref e) none) (fun _ s₃ => wpAny (model prog w) A (handleBy (.ref e) env (.ExceptHandler (some t) none (b₀ :: suite) pos :: hs)) Q E s₃) E s₂) E s:=by
 obtain ⟨⟨a0,hfl⟩,u0⟩:=F
 refine wpAny_looks_onW hfr hf hfl fun h2 hh u1 => wpAny_landsW hh fun h3 hfl3 u2 => ?_
 refine wpAny_handleBy_builtin (X:=cls) (T:=cls) (b:=true) hexc hnt hsub (wpAny_passesOwnAt hE (ht _ _ _ hfl3.1 ⟨rfl, ?_, ?_⟩))
 · obtain ⟨ob,h4,h5⟩:=hfl3.there
   exact ⟨ob,h4,h5⟩
 · rw [if_pos rfl]
   obtain ⟨f1,f2,f3,f4⟩:=hfl3
   refine wpAny_setFlight_noneW f1 f3 f4.at fun h4 k1 k2 k3 k4 => wpAny_passesOwnAt hE ?_
   exact hQ h4 (Zy.of k1 (((u0.trans u1).trans u2).trans fun b o e n => ⟨o.slots,k4 b o e n⟩))
theorem St.slots (S : St prog w B s₀ Own₀ M₀ names env Own M ρ μ s) {fs wr : List Addr} {μ' : List (Addr × D)} {h' : Heap} {tk : Nat} (hfs : ∀ a ∈ fs,Own a ∧ ∀ d,(a,d) ∉ μ') (hwr : ∀ a ∈ wr,Own a ∧ (∃ d,(a,d) ∈ μ) ∧ ∃ o,h'.get? a = some o)
   (hμ : ∀ p ∈ μ',p ∈ μ ∧ p.1 ∉ wr) (hnd : (μ'.map (·.1)).Nodup) (hk : ∀ a o,a ∉ fs → a ∉ wr → s.heap.get? a = some o → h'.get? a = some o) (hu : ∀ a o,a ∉ wr → s.heap.get? a = some o → (∀ vs,o.data ≠ .fields vs) → ∃ sl,h'.get? a = some { o with slots:=sl })
   (hfd : ∀ a ∈ fs,∀ o,s.heap.get? a = some o → ∀ vs,o.data ≠ .fields vs) : St prog w B s₀ Own₀ M₀ names env Own M ρ μ' { s with heap:=h',toks:=tk }:=by
 have hO : ∀ a,a ∈ fs ∨ a ∈ wr → Own a:=fun a z => z.elim (fun q => (hfs a q).1) fun q => (hwr a q).1
 have hmv : ∀ b o,¬ M b → s.heap.get? b = some o → h'.get? b = some o ∧ ¬ M b:=fun b o m e => ⟨hk b o (fun q => m (S.own b (hO b (.inl q)))) (fun q => m (S.own b (hO b (.inr q)))) e,m⟩
 have hfw : ∀ a,zO names env a → a ∉ wr:=fun a z q => by obtain ⟨_,⟨d,hd⟩,_⟩:=hwr a q; exact S.sep a d hd z
 have hcw : ∀ c v,s.heap.IsCell c v → c ∉ wr:=fun c v z q => by obtain ⟨_,⟨d,hd⟩,_⟩:=hwr c q; exact zn (S.e.mem c d hd) z
 have hns : ∀ {a : Addr} {m},a ∉ wr → s.heap.Ns a m → h'.Ns a m:=fun {a m} n ⟨o,es,ep,ho,hd,r⟩ => by
   obtain ⟨sl,q⟩:=hu a o n ho fun vs z => by rw [hd] at z; cases z
   exact ⟨_,es,ep,q,hd,r⟩
 have hce : ∀ {c v},s.heap.IsCell c v → h'.IsCell c v:=fun {c v} z => by
   have n:=hcw c v z
   obtain ⟨o,ho,hd⟩:=z
   obtain ⟨sl,q⟩:=hu c o n ho fun vs z => by rw [hd] at z; cases z
   exact ⟨_,q,hd⟩
 obtain ⟨h,t,e⟩:=S.same
 have hz : ∀ b o,Own b → s₀.heap.get? b = some o → Own₀ b:=fun b o z q => by
   rcases S.fresh b z with y | y
   · exact y
   · rw [q] at y; cases y
 refine ⟨⟨h',tk,by rw [e]⟩,⟨fun b o q => ?_,S.e.n,fun b m => ?_,fun y c q => ?_,fun y u hm => ?_,fun b d hm => ?_⟩,⟨?_,fun y c hy q => ?_⟩,fun b o n q => ?_,S.own,S.own₀,S.fresh,S.more,S.fr,S.base,fun b d hm => S.sep b d (hμ _ hm).1,hnd⟩
 · refine hk b o (fun z => ?_) (fun z => ?_) (S.e.base b o q)
   · rw [S.base b (hO b (.inl z))] at q; cases q
   · rw [S.base b (hO b (.inr z))] at q; cases q
 · by_cases hw : b ∈ wr
   · exact (hwr b hw).2.2
   · obtain ⟨o,q⟩:=S.e.old b m
     by_cases hf : b ∈ fs
     · obtain ⟨sl,z⟩:=hu b o hw q (hfd b hf o q); exact ⟨_,z⟩
     · exact ⟨o,hk b o hf hw q⟩
 · obtain ⟨u,z⟩:=S.e.celled y c q; exact ⟨u,hce z⟩
 · obtain ⟨v,hv,hr⟩:=S.e.vars y u hm
   refine ⟨v, ?_,hr.to hmv⟩
   rcases hv with ⟨x1,m,n,e1⟩ | ⟨x1,c,e1,q⟩
   · exact .inl ⟨x1,m,hns (hfw _ (.inl rfl)) n,e1⟩
   · exact .inr ⟨x1,c,e1,hce q⟩
 · exact (S.e.mem b d (hμ _ hm).1).to (fun o q => hk b o (fun z => (hfs b z).2 d hm) (hμ _ hm).2 q) hmv
 · obtain ⟨m,n⟩:=S.f.ns
   exact ⟨m,hns (hfw _ (.inl rfl)) n⟩
 · obtain ⟨v,z⟩:=S.f.cell y c hy q; exact ⟨v,hce z⟩
 · exact hk b o (fun z => n (hz b o (hO b (.inl z)) q)) (fun z => n (hz b o (hO b (.inr z)) q)) (S.keep b o n q)
theorem ZT {σ : Type} {test : Expr} {body : List Stmt} {pos : Pos} (S : St prog w B s₀ Own₀ M₀ names env Own M ρ μ s) (hE : PassesOwn (model prog w) A env E)
  (ρ' : σ → List (Str × RV)) (μ' : σ → List (Addr × D)) (P : σ → Prop) (m : σ → Nat) (t : σ → Bool) (c₀ : σ) (hp : P c₀) (hρ : ∀ x r,(x,r) ∈ ρ' c₀ → (x,r) ∈ ρ) (hμ : μ' c₀ = μ)
  (htest : ∀ c s₁,P c → St prog w B s₀ Own₀ M₀ names env Own M (ρ' c) (μ' c) s₁ → Tv prog w A s₁.heap test env (t c))
  (turn : ∀ c s₁,P c → t c = true → St prog w B s₀ Own₀ M₀ names env Own M (ρ' c) (μ' c) s₁ →
    wpAny (model prog w) A (execs body env) (fun f s₂ => f = .next ∧ ∃ c',P c' ∧ m c' < m c ∧ St prog w B s₀ Own₀ M₀ names env Own M (ρ' c') (μ' c') s₂) E s₁)
  (done : ∀ c s',P c → t c = false → St prog w B s₀ Own₀ M₀ names env Own M (ρ' c) (μ' c) s' → wpAny (model prog w) A (execs rest env) Q E s') :
  wpAny (model prog w) A (execs (.While test body [] pos :: rest) env) Q E s:=by
 refine wpAny_execs_cons (wpAny_While ?_)
 refine codeAny_whileLoop (fun k s' => ∃ c,m c = k ∧ P c ∧ St prog w B s₀ Own₀ M₀ names env Own M (ρ' c) (μ' c) s') ?_ (m c₀) ⟨c₀,rfl,hp,by rw [hμ]; exact S.sub hρ⟩
 rintro k s' ⟨c,rfl,hP,T⟩
 refine htest c s' hP T s' _ _ (zR.refl _) fun s₂ k₂ => ?_
 have T₂:=T.step k₂
 cases ht : t c with
 | false =>
  simp only [Bool.false_eq_true,if_false]
  exact wpAny_execs_nil (done c s₂ hP ht T₂)
 | true =>
  simp only [if_true]
  refine wpAny_mono (turn c s₂ hP ht T₂) (fun f s₄ hf => ?_) fun e s₄ x => ?_
  · obtain ⟨rfl,c',hc',hm',T₄⟩:=hf
    exact ⟨m c',hm',c',rfl,hc',T₄⟩
  · exact hE e s₄ x
end
open PySem PySem.Calls PyProof.Rows PySem.W Builtin
section
variable {prog : Program} {w : World} {A : Around} {B : Heap} {s₀ s : Shared} {Own₀ M₀ Own M : Addr → Prop} {names : zJ} {env : Env} {ρ : List (Str × RV)} {μ : List (Addr × D)} {h : Heap} {k : Nat}
 {E : Value → Shared → Prop} {rest : List Stmt}
theorem jo {b : Array UInt8} {t : Tok} {Q : Value → Shared → Prop} (hQ : Q (.ref s.heap.objs.size) { s with heap:=s.heap.push (qW b t 0) }) : wpAny (model prog w) A (PySem.call (.builtin "iter") [.bytes b t]) Q E s:=by
 refine call_function_entry (by decide +kernel) (by decide +kernel) kdk_entry_iter (kdk_args_iter _) ?_
 unfold Builtin.«iter»
 refine wpAny_bind (m:=someArgs "iter" 1 2 _) (wpAny_of_eq (a:=[Value.bytes b t]) (by first | rfl | kernel_rfl!) ?_)
 show wpAny _ _ (pyIter (.bytes b t) >>= _) _ _ _
 refine wpAny_bind (KBw.pyIter_bytes ?_)
 exact wpAny_pure ⟨_,rfl,hQ⟩
theorem j3 {b : Array UInt8} {t : Tok} {it : Addr} {i : Nat} {c : UInt8} {Q : Value → Shared → Prop} (ho : s.heap.get? it = some (qW b t i)) (hx : b[i]? = some c)
  (hQ : ∀ h',h'.get? it = some (qW b t (i + 1)) → Heap.SameBut it s.heap h' → Q (.int (c.toNat : Int) s.toks) { s with heap:=h',toks:=s.toks + 1 }) : wpAny (model prog w) A (PySem.call (.builtin "next") [.ref it]) Q E s:=by
 have hT : s.TypeIs (.ref it) "bytes_iterator" := ⟨_,ho,rfl⟩
 refine call_function_entry (by decide +kernel) (by decide +kernel) kdk_entry_next (kdk_args_next _) ?_
 unfold Builtin.«next»
 refine wpAny_bind (m:=someArgs "next" 1 2 _) (wpAny_of_eq (a:=[Value.ref it]) (by first | rfl | kernel_rfl!) ?_)
 dsimp only
 refine wpAny_bind (wpAny_specialOf (name:=Str.ofString "__next__") hT KBw.slot_next.lookup ?_)
 refine wpAny_ite_split (fun hab => absurd hab (by decide)) (fun _ => ?_)
 refine wpAny_bind (wpAny_callSpecial?_slot (name:=PySem.Str.ofString "__next__") hT KBw.slot_next (wpAny_call_entry KBw.slot_next hT KBw.entry_next ?_ (KBw.args_next _)))
 have hd : (qW b t i).data = .fields #[.bytes b t,.int i 0]:=rfl
 show wpAny _ _ (field (.ref it) 0 >>= _) _ _ s
 refine wpAny_bind (wpAny_field ho hd (x:=.bytes b t) rfl ?_)
 show wpAny _ _ (if (Value.bytes b t == Value.none) = true then _ else _) _ _ s
 rw [if_neg (show ¬ ((Value.bytes b t == Value.none) = true) from Bool.false_ne_true)]
 show wpAny _ _ (field (.ref it) 1 >>= _) _ _ s
 refine wpAny_bind (wpAny_field ho hd (x:=.int i 0) rfl ?_)
 refine wpAny_bind (wpAny_of_eq (a:=b) rfl ?_)
 simp only [Int.toNat_natCast,hx]
 refine wpAny_bind (wpAny_setField ho hd (by simp) (wpAny_bind (wpAny_mkInt (wpAny_pure ⟨_,rfl,wpAny_pure ⟨_,rfl,hQ _ ?_ (Heap.SameBut.update ..)⟩⟩))))
 rw [Heap.get?_update_self _ ho (Obj.isFreed_of_fields (Obj.data_mapFields hd _))]
 simp [Obj.mapFields,rawInt]
theorem k7 {b : Array UInt8} {t : Tok} {it : Addr} {i : Nat} {Q : Value → Shared → Prop} (hh : A.handled = none) (ho : s.heap.get? it = some (qW b t i)) (hx : b[i]? = none)
  (hQ : ∀ h₁ h' e,Heap.SameBut it s.heap h₁ → (∃ o,h₁.get? it = some o) → Heap.NewExc h₁ h' e "StopIteration" → E (.ref e) { s with heap:=h' }) : wpAny (model prog w) A (PySem.call (.builtin "next") [.ref it]) Q E s:=by
 have hT : s.TypeIs (.ref it) "bytes_iterator" := ⟨_,ho,rfl⟩
 refine call_function_entry (by decide +kernel) (by decide +kernel) kdk_entry_next (kdk_args_next _) ?_
 unfold Builtin.«next»
 refine wpAny_bind (m:=someArgs "next" 1 2 _) (wpAny_of_eq (a:=[Value.ref it]) (by first | rfl | kernel_rfl!) ?_)
 dsimp only
 refine wpAny_bind (wpAny_specialOf (name:=Str.ofString "__next__") hT KBw.slot_next.lookup ?_)
 refine wpAny_ite_split (fun hab => absurd hab (by decide)) (fun _ => ?_)
 refine wpAny_bind (wpAny_callSpecial?_slot (name:=PySem.Str.ofString "__next__") hT KBw.slot_next (wpAny_call_entry KBw.slot_next hT KBw.entry_next ?_ (KBw.args_next _)))
 have hd : (qW b t i).data = .fields #[.bytes b t,.int i 0]:=rfl
 show wpAny _ _ (field (.ref it) 0 >>= _) _ _ s
 refine wpAny_bind (wpAny_field ho hd (x:=.bytes b t) rfl ?_)
 show wpAny _ _ (if (Value.bytes b t == Value.none) = true then _ else _) _ _ s
 rw [if_neg (show ¬ ((Value.bytes b t == Value.none) = true) from Bool.false_ne_true)]
 show wpAny _ _ (field (.ref it) 1 >>= _) _ _ s
 refine wpAny_bind (wpAny_field ho hd (x:=.int i 0) rfl ?_)
 refine wpAny_bind (wpAny_of_eq (a:=b) rfl ?_)
 simp only [Int.toNat_natCast,hx]
 refine wpAny_bind (wpAny_rule (wpAny_bind (wpAny_setField ho hd (by simp) ?_)))
 show wpAny _ _ (newExc (.type "StopIteration") [] >>= _) _ _ _
 refine wpAny_bind ?_
 simp only [newExc,newTuple]
 refine wpAny_bind (wpAny_newObj_type ?_ (by size_fits))
 refine wpAny_bind (m:=firstArgMember _ _) (wpAny_of_eq (a:=Value.none) (by first | rfl | (simp only [firstArgMember]; rfl)) ?_)
 refine wpAny_newObj_type ?_ (by size_fits)
 simp only [raiseNew]
 refine wpAny_bind (wpAny_handled ?_)
 rw [show A.in1.handled = none from hh]
 refine wpAny_bind (wpAny_pure (wpAny_throw ?_))
 refine hQ (s.heap.update it (Obj.mapFields (·.setIfInBounds 0 .none))) _ _ (Heap.SameBut.update ..) ⟨_,Heap.get?_update_self _ ho (Obj.isFreed_of_fields (Obj.data_mapFields hd _))⟩ ⟨fun b o e => Heap.get?_push_of_some _ (Heap.get?_push_of_some _ e),Heap.get?_none_of_le (by rw [Heap.size_push]; omega), ?_⟩
 exact ⟨_,_,Heap.get?_push_size _ rfl,rfl,rfl⟩
end
section
variable {prog : Program} {w : World} {A : Around} {B : Heap} {s₀ s : Shared} {Own₀ M₀ Own M : Addr → Prop} {names : zJ} {env : Env} {ρ : List (Str × RV)} {μ : List (Addr × D)} {h : Heap} {k : Nat}
 {E : Value → Shared → Prop} {Q : Flow → Shared → Prop} {rest : List Stmt} {mg mb : Str → Option Value}
theorem WH (G : Gl B mg mb) (hnx : mg "next" = none ∧ mb "next" = some (.builtin "next")) (S : St prog w B s₀ Own₀ M₀ names env Own M ρ [(it,.bit b i)] s) (hh : A.handled = none) {x y : Str} {fp yp cp p pos : Pos}
  (hy : (y,RV.adr it) ∈ ρ) (hyd : (y == ("__debug__" : Str)) = false) (hx : zY names x = true) (hnn : names.lookup (Str.ofString "next") = some .globalImplicit) (ho : Own it)
  (hs : swapsWith (.Call (.Name (Str.ofString "next") fp) [.Name y yp] [] cp) (some (.Name x p)) pos.line env = pure false)
  (hit : ∀ c s',b[i]? = some c → St prog w B s₀ Own₀ M₀ names env Own M ((x,.dat (.int (c.toNat : Int))) :: XJ x ρ) [(it,.bit b (i + 1))] s' → wpAny (model prog w) A (execs rest env) Q E s')
  (hend : ∀ s₁ h₁ h' e,b[i]? = none → St prog w B s₀ Own₀ M₀ names env Own M ρ [(it,.bit b i)] s₁ → Heap.SameBut it s₁.heap h₁ → (∃ o,h₁.get? it = some o) → Heap.NewExc h₁ h' e "StopIteration" → E (.ref e) { s₁ with heap:=h' }) :
  wpAny (model prog w) A (execs (.Assign [.Name x p] (.Call (.Name (Str.ofString "next") fp) [.Name y yp] [] cp) pos :: rest) env) Q E s:=by
 refine wU hs hx (s₀:=s₀) (Own₀:=Own₀) (M₀:=M₀) (B:=B) (names:=names) ?_
 refine xj (f:=.builtin "next") (rs:=[.adr it]) S.e (Ev.glob G S.e hnn (.inr hnx) (by decide)) (.inl fun _ e => by cases e) (.cons (Ev.var S.e hy hyd) .nil fun _ => rfl) fun vs s₁ k₁ rs => ?_
 cases rs with | @cons v _ _ _ r rs => cases rs with | nil =>
 have r : v = .ref it:=r
 subst r
 have S₁:=S.step k₁
 obtain ⟨t,ho1⟩ : ∃ t,s₁.heap.get? it = some (qW b t i):=by
  have:=S₁.e.mem it _ (.head _)
  cases this with | itr p => exact ⟨_,p⟩
 cases hb : b[i]? with
 | some c =>
  refine j3 ho1 hb fun h' g sb => ?_
  have S₂:=S₁.effect1 (pre:=[]) (post:=[]) (d':=.bit b (i + 1)) (h':=h') (tk:=s₁.toks + 1) rfl ho (fun a o n e => (sb.2 a n).trans e) (.itr g)
  exact ⟨_,_,_,_,.dat (.int (c.toNat : Int)),S₂,.int _ _,fun s' S' => hit c s' hb S'⟩
 | none =>
  exact k7 hh ho1 hb fun h₁ h' e sb hex hx => hend s₁ h₁ h' e hb S₁ sb hex hx
theorem St.raised (S : St prog w B s₀ Own₀ M₀ names env Own M ρ μ s) {l : List Env} {wr : List Addr} (hfr : env.frame = some env.locals) (hO : ∀ a,Own₀ a → a ∈ wr) (hok : yl s₀.heap l) (hfw : ∀ a ∈ xm l,¬ Own₀ a) {h₁ : Heap} (hsb : ∀ a o,a ∉ wr → s.heap.get? a = some o → h₁.get? a = some o) (hsep : env.locals ∉ wr) (hfl : ∀ a ∈ xm l,a ∉ wr) :
   yl h₁ (env :: l) ∧ (∀ a o,a ∉ wr → s₀.heap.get? a = some o → h₁.get? a = some o):=by
 have kp : ∀ a o,a ∉ wr → s₀.heap.get? a = some o → h₁.get? a = some o:=fun a o n e => hsb a o n (S.keep a o (fun z => n (hO a z)) e)
 refine ⟨fun en he => ?_,kp⟩
 rcases List.mem_cons.mp he with rfl | he
 · refine ⟨by rw [S.e.n.fn]; decide,en.locals, ?_⟩
   obtain ⟨m,o,es,ep,e,hd,_⟩:=S.f.ns
   exact ⟨o,hfr,hsb _ _ hsep e,fun vs z => by rw [hd] at z; cases z⟩
 · obtain ⟨h1,L,o,h2,h3,h4⟩:=hok en he
   have hL : L ∈ xm l:=List.mem_filterMap.mpr ⟨en,he,h2⟩
   exact ⟨h1,L,o,h2,kp _ _ (hfl L hL) h3,h4⟩
theorem Xz (G : Gl B mg mb) (N : vH names env) {x : Str} {v : Value} {p : Pos} {Q : Value → Shared → Prop} (X : zR B s.heap) (hx : names.lookup x = some .globalImplicit) (hv : mg x = some v ∨ (mg x = none ∧ mb x = some v)) (hd : (x == ("__debug__" : Str)) = false) (h : Q v s) :
   wpAny (model prog w) A (eval (.Name x p) env) Q E s:=by
 refine Name_function_global N.fn (N.gi x hx) ?_ hd
 rcases hv with e | ⟨e,e'⟩
 · exact loadGlobal_global (by rw [N.glob]; exact G.g.keeps X) e h
 · exact loadGlobal_builtin (by rw [N.glob]; exact G.g.keeps X) e (by rw [N.bl]; exact G.b.keeps X) e' h
theorem Zs (N : vH names env) {x : Str} {v : Value} {p : Pos} {Q : Value → Shared → Prop} (hv : yG env s.heap x v) (hd : (x == ("__debug__" : Str)) = false) (h : Q v s) : wpAny (model prog w) A (eval (.Name x p) env) Q E s:=by
 refine wpAny_Name ?_ hd
 rcases hv with ⟨a,m,n,e⟩ | ⟨a | ⟨a,a2⟩,c,e,q⟩
 · exact wpAny_loadName_local N.fn a n e h
 · exact wpAny_loadName_cell N.fn a e q h
 · exact wpAny_loadName_free N.fn a e q h a2
theorem yG.slots {h h' : Heap} (u : h.UpToSlots h') {x : Str} {v : Value} (V : yG env h x v) : yG env h' x v:=by
 rcases V with ⟨a,m,n,e⟩ | ⟨a,c,e,o,q1,q2⟩
 · exact .inl ⟨a,m,u.ns n,e⟩
 · obtain ⟨sl,q⟩:=u c o q1 fun vs z => by rw [q2] at z; cases z
   exact .inr ⟨a,c,e,_,q,q2⟩
theorem Wd {k : Nat} (C : Prop) (S : St prog w B s₀ Own₀ M₀ names env Own M ρ μ s) (R : Rm A k) {x : Str} {xp apos pos pos2 : Pos} {name : Str} {T id : String} {e : Expr} {a : Addr} {d d1 d' dd : D} {pre post : List (Addr × D)}
   (hm : (x,RV.adr a) ∈ ρ) (hdb : (x == ("__debug__" : Str)) = false) (hμ : (a,d) ∈ μ) (ho : Own a) (hT : Jw d = some T) (pa : PlainAttrs T) (slot : Slot T name id) (hty : typeOf (.builtin id) = pure (.type "method_descriptor"))
   (hst : ∀ rest,starEach (e :: rest) env = (false,eval e env) :: starEach rest env) (hline : (apos.endLine == pos.line) = true)
   (hx : ∀ (Q' : Value → Shared → Prop) s₁,St prog w B s₀ Own₀ M₀ names env Own M ρ μ s₁ → (∀ v s',C → St prog w B s₀ Own₀ M₀ names env Own M ρ (pre ++ (a,d1) :: post) s' → Rp prog w s'.heap M v dd → Q' v s') → wpAny (model prog w) A (eval e env) Q' E s₁)
   (hc : xI prog w k (.builtin id) d1 [dd] d' .none)
   (hQ : ∀ s',C → St prog w B s₀ Own₀ M₀ names env Own M ρ (pre ++ (a,d') :: post) s' → wpAny (model prog w) A (execs rest env) Q E s') :
   wpAny (model prog w) A (execs (.Expr (.Call (.Attribute (.Name x xp) name apos) [e] [] pos) pos2 :: rest) env) Q E s:=by
 refine wpAny_execs_cons (wpAny_Expr ?_ (by simp [interactive,S.e.n.fn]) rfl)
 have hc0:=S.e.mem a d hμ
 refine PySem.wpAny_Call_method (by rfl) ?_ hline pa slot hty (Ev.var S.e hm hdb s E _ (zR.refl _) fun ov s₁ k₁ r => ?_)
 · rw [hst]; rfl
 cases r
 have rr : Rd prog w s₁.heap M (.ref a) d:=.inr ⟨a,rfl,hc0.ext (ke k₁)⟩
 refine ⟨(vE hT rr).1,(vE hT rr).2, ?_⟩
 refine PySem.Calls.callWith_builtin (by rw [hst]; rfl) ?_
 rw [hst]
 refine evalArgs_plain (spliced_cons (hx _ s₁ (S.step k₁) fun v s₂ hC S₂ rv => spliced_nil ?_))
 refine hc A M s₂ E _ a [v] R (S.own a ho) (S₂.e.mem a d1 (by simp)) (.cons rv .nil) fun v s' ef c' rv => ?_
 obtain ⟨h',tk,rfl,kk⟩:=ef
 rw [rv.none_inv]
 exact hQ _ hC (S₂.effect1 rfl ho (fun b o n e => kk b o (by simpa using n) e) c')
end
section
variable {prog : Program} {w : World} {A : Around} {B : Heap} {s : Shared} {Own₀ M₀ : Addr → Prop}
theorem K4 {fd : FuncData} {f : Addr} {o : Obj} {sa : Shared} {body : List Stmt} {args : Args} {binds : List (Str × Value)} {k : Nat} {RR : Result → Shared → Prop} (O : jx fd) (R : Rm A (k + 1)) (ho : sa.heap.get? f = some o) (hd : o.data = .func fd)
  (hlim : B.NoLimit) (base : zR B s.heap) (hcd : sa.heap.CodeRec fd.code fd.qualname) (hbody : fd.body = .stmts body) (hbind : ∀ (M : Model) (A : Around) (E : Value → Shared → Prop) (Q : List (Str × Value) → Shared → Prop),Q binds s → wpAny M A (bindArgs fd args) Q E sa) (hn : (binds.map (·.1)).Nodup) (hk : (binds.all fun p => zY fd.scope.names p.1) = true)
  (hold : ∀ a,M₀ a → ∃ o,s.heap.get? a = some o) (hown : ∀ a,Own₀ a → M₀ a ∧ B.get? a = none) (hclo : ∀ x c,fd.closure.lookup x = some c → ∃ v,s.heap.IsCell c v)
  (ρ₀ : List (Str × RV)) (hρ : ∀ x r,(x,r) ∈ ρ₀ → (∃ v,(x,v) ∈ binds ∧ zm prog w s.heap M₀ v r) ∨ (fd.scope.names.lookup x = some .free ∧ (x == ("__classdict__" : Str)) = false ∧ ∃ c v,fd.closure.lookup x = some c ∧ s.heap.IsCell c (some v) ∧ zm prog w s.heap M₀ v r))
  (μ₀ : List (Addr × D)) (hμ : ∀ a d,(a,d) ∈ μ₀ → zc prog w s.heap M₀ a d) (hnd : (μ₀.map (·.1)).Nodup)
  (run : ∀ env Own M s₁,(∃ L,env = zW fd L f) → Rm (A.deeper env) k → (∀ a,Own₀ a → Own a) → (∀ a,M a → M₀ a ∨ s.heap.get? a = none) → St prog w B s Own₀ M₀ fd.scope.names env Own M ρ₀ μ₀ s₁ →
   wpAny (model prog w) (A.deeper env) (execs body env) (fun fl s' => RR (.ok (.ret (match fl with | .ret v => v | _ => .none))) s')
    (fun e s' => wpAny (model prog w) (A.deeper env) (leaving env e) (fun _ s'' => RR (.error e) s'') (fun e' s'' => RR (.error e') s'') s') s₁) :
  codeAny (model prog w) A (.call (.ref f) args) RR sa:=by
 refine codeAny_call_function (by have:=R.hd; show A.depth < 1000; omega) ho hd O.co O.gen hbody hcd (hbind _ _ _ _ ?_)
 refine xr O (f:=f) (fun x c e => by obtain ⟨v,o,q,_⟩:=hclo x c e; exact Heap.lt_size q) hn (fun p hp => List.all_eq_true.mp hk p hp) fun h' tk F hb kx hA => ⟨hlim.keeps (base.trans kx),codeAny_func ?_⟩
 have fresh : ∀ a,zO fd.scope.names (zW fd s.heap.objs.size f) a → s.heap.get? a = none:=fun a z => Heap.get?_none_of_le (hA a z)
 exact run _ _ _ _ ⟨_,rfl⟩ (R.deeper _) (fun a o => .inl o) (fun a m => m.imp id (fresh a)) (Kx O base hold hown hclo ρ₀ hρ μ₀ hμ hnd F hb kx fresh)
end
theorem Rm.under {A : Around} {k : Nat} {c : Code} (r : Rm A (k + 1)) (h : (A.under c).handled = A.handled ∧ (A.under c).depth ≤ A.depth + 1 ∧ (A.under c).units ≤ A.units + 4) : Rm (A.under c) k:=⟨h.1.trans r.hh,by have:=r.hd; omega,by have:=r.hu; omega⟩
structure yB (B : Heap) (d : Stmt) (f : Addr) (fd : FuncData) : Prop where
 get : ∃ o,B.get? f = some o ∧ o.data = .func fd ∧ o.cls = .type "function"
 code : B.CodeRec fd.code fd.qualname
 ok : jx fd
 args : fd.params = wx d
 body : fd.body = .stmts (zC d)
 scope : fd.scope = zZ d
 clo : fd.closure = []
theorem yB.ext {B B' : Heap} {d : Stmt} {f : Addr} {fd : FuncData} (H : yB B d f fd) (X : zR B B') : yB B' d f fd :=
 ⟨by obtain ⟨o,e,q⟩:=H.get; exact ⟨o,X _ _ e,q⟩,ze H.code X,H.ok,H.args,H.body,H.scope,H.clo⟩
theorem yB.keepy {B : Heap} {d : Stmt} {f : Addr} {fd : FuncData} (H : yB B d f fd) : Zf B (.ref f):=by
 obtain ⟨o,e,q,_⟩:=H.get
 exact .inr ⟨f,o,fd,rfl,e,q⟩
section
variable {prog : Program} {w : World} {A : Around} {B : Heap} {s₀ s : Shared} {Own₀ M₀ Own M : Addr → Prop} {names : zJ} {env : Env} {ρ : List (Str × RV)} {μ : List (Addr × D)} {h : Heap} {k : Nat}
 {E : Value → Shared → Prop} {rest : List Stmt} {mg mb : Str → Option Value} {C N : Addr} {mN mA : Str → Option Value}
noncomputable def YQ (prog : Program) (w : World) (d : D) (C : Addr) (mA : Str → Option Value) : Prop:=∀ h M v,Rp prog w h M v d → ∃ x,v = .ref x ∧ h.InstFk x C mA
theorem Ev.attr {o : Expr} {d : D} {name : Str} {pos : Pos} {v : Value} (S : En prog w B names env h M ρ μ) (ho : Ev prog w A h o env (PS prog w M d)) (I : YQ prog w d C mA) (X : ClsAt B C N mN) (hb : attributeBase o name env (eval o env) = eval o env)
  (hv : mA name = some v) (hng : mN "__getattribute__" = none) (hna : mN name = none) (hB : typeLookup (.type "object") name = pure none) (hh : handedOut v = pure v) :
  Ev prog w A h (.Attribute o name pos) env (fun _ u => u = v):=by
 intro s E Q kx hQ
 rw [arm_eval_Attribute,hb]
 refine wpAny_bind (ho s E _ kx fun ov s₁ k₁ r => wpAny_bind (wpAny_standAt (wpAny_bind (wpAny_holding ?_))))
 obtain ⟨x,rfl,ix⟩:=I _ _ _ r
 obtain ⟨nm,q,bs,sn,sub,col,dd,k0,k1,k2,k3,k5,hC⟩:=(X.keeps (S.base.trans (kx.trans (ke k₁)))).obj
 refine load_attrFk hC (X.keeps (S.base.trans (kx.trans (ke k₁)))).ns hng hna hB ix hv hh ?_
 refine wpAny_bind (wpAny_letTemporaryGo (wpAny_pure ?_))
 exact hQ v _ (zA k₁ (zI s₁ _)) rfl
theorem kh {o : Expr} {d : D} {dm : Stmt} {name : Str} {apos pos : Pos} {es : List Expr} {rs : List RV} {f : Addr} {fd : FuncData} {y : Option Value} (S : En prog w B names env s.heap M ρ μ) (ho : Ev prog w A s.heap o env (PS prog w M d)) (I : YQ prog w d C mA) (X : ClsAt B C N mN) (hf : mN name = some (.ref f)) (H : yB B dm f fd)
  (hng : mN "__getattribute__" = none) (hnh : mN "__getattr__" = none) (hB : typeLookup (.type "object") name = pure y) (hsh : mA name = none) (hx : jI prog w A s.heap env M es rs) {pl : Sem Bool} {Q : Value → Shared → Prop}
  (hQ : ∀ x vs s',Keeps s s' → Rp prog w s'.heap M (.ref x) d → zP prog w s'.heap M vs rs → wpAny (model prog w) A (PySem.call (.ref f) (.ref x :: vs)) Q E s')
  (he : eval (.Call (.Attribute o name apos) es [] pos) env = (do
   let ov ← eval o env
   standAt apos.atName
   let (f,first) ← holding [ov] (getMethod ov name pl)
   callWith pos f first (backTo pos (starEach es env)) (backToKw pos (keywordEach [] env)))) :
  wpAny (model prog w) A (eval (.Call (.Attribute o name apos) es [] pos) env) Q E s:=by
 refine methodCall_KW (pl:=pl) (ho s E _ (zR.refl _) fun ov s₁ k₁ r => ?_) he
 obtain ⟨x,rfl,ix⟩:=I _ _ _ r
 have X₁:=X.keeps (S.base.trans (ke k₁))
 obtain ⟨nm,q,bs,sn,sub,col,dd,k0,k1,k2,k3,k5,hC⟩:=X₁.obj
 obtain ⟨fo,hfo,hfd,hfc⟩:=H.get
 refine method_ofFk hC X₁.ns hng hnh hf (S.base.trans (ke k₁) _ _ hfo) hfc hB ix hsh ?_
 refine callWith_of (P:=zR B) (by show ((backTo pos (starEach es env)).any (·.1) || false) = false; rw [hx.noStar]; rfl) (fun h' X' => xT H.keepy h' X') (v7 hx (ke k₁) fun vs s₂ k₂ rs => ?_)
 have k12:=zA k₁ k₂
 exact ⟨S.base.trans (ke k12),hQ x vs s₂ k12 (r.ext (ke k₂)) rs⟩
theorem Xc {o e0 ke0 : Expr} {d : D} {dm : Stmt} {name kn : Str} {apos pos kp : Pos} {es : List Expr} {rs : List RV} {kr : RV} {f : Addr} {fd : FuncData} {y : Option Value} (S : En prog w B names env s.heap M ρ μ) (ho : Ev prog w A s.heap o env (PS prog w M d)) (I : YQ prog w d C mA) (X : ClsAt B C N mN) (hf : mN name = some (.ref f)) (H : yB B dm f fd)
  (hng : mN "__getattribute__" = none) (hnh : mN "__getattr__" = none) (hB : typeLookup (.type "object") name = pure y) (hsh : mA name = none) (hx : jI prog w A s.heap env M (e0 :: es) rs) (hkw : Ev prog w A s.heap ke0 env (fun h v => zm prog w h M v kr)) {pl : Sem Bool} {Q : Value → Shared → Prop}
  (hst : starEach (e0 :: es) env = (false,eval e0 env) :: starEach es env)
  (hQ : ∀ x vs kv s',Keeps s s' → Rp prog w s'.heap M (.ref x) d → zP prog w s'.heap M vs rs → zm prog w s'.heap M kv kr → wpAny (model prog w) A (PySem.call (.ref f) (.ref x :: vs) [(kn,kv)]) Q E s')
  (he : eval (.Call (.Attribute o name apos) (e0 :: es) [⟨some kn,ke0,kp⟩] pos) env = (do
   let ov ← eval o env
   standAt apos.atName
   let (f,first) ← holding [ov] (getMethod ov name pl)
   callWith pos f first (backTo pos (starEach (e0 :: es) env)) (backToKw pos (keywordEach [⟨some kn,ke0,kp⟩] env)))) :
  wpAny (model prog w) A (eval (.Call (.Attribute o name apos) (e0 :: es) [⟨some kn,ke0,kp⟩] pos) env) Q E s:=by
 refine methodCall_KW (pl:=pl) (ho s E _ (zR.refl _) fun ov s₁ k₁ r => ?_) he
 obtain ⟨x,rfl,ix⟩:=I _ _ _ r
 have X₁:=X.keeps (S.base.trans (ke k₁))
 obtain ⟨nm,q,bs,sn,sub,col,dd,k0,k1,k2,k3,k5,hC⟩:=X₁.obj
 obtain ⟨fo,hfo,hfd,hfc⟩:=H.get
 refine method_ofFk hC X₁.ns hng hnh hf (S.base.trans (ke k₁) _ _ hfo) hfc hB ix hsh ?_
 refine callWith_of (P:=zR B) (by rw [hx.noStar]; rfl) (fun h' X' => xT H.keepy h' X') ?_
 refine evalArgs_kw2 (by rfl) (vv hx s₁ E _ (ke k₁) fun vs s₂ k₂ rs => ?_) hst
 refine kwAll_cons (hkw s₂ E _ (ke (zA k₁ k₂)) fun kv s₃ k₃ rk => kwAll_nil ?_)
 have k13:=zA (zA k₁ k₂) k₃
 exact ⟨S.base.trans (ke k13),hQ x vs kv s₃ k13 (r.ext (ke (zA k₂ k₃))) (rs.ext (ke k₃)) rk⟩
end
theorem jk : Slot "re.Pattern" "search" "re.Pattern.search" :=
 .of (owner := "re.Pattern") (n := "search") (by rw [typeLookup_type,builtinLookup_eq_fast]; kernel_rfl) (by decide +kernel) (by decide +kernel) (by decide +kernel)
  (by first | exact .inl (by decide +kernel) | exact .inr (by decide +kernel)) (by rw [isSubtype_type]; kernel_rfl)
theorem YK : entryFor table "re.Pattern.search" = some Builtin.«re.Pattern.search»:=entryFor_of_tree (by kernel_rfl)
theorem Yk (a b : Value) : argsOk "re.Pattern.search" ⟨[a,b],[]⟩:=by unfold argsOk; kernel_rfl
theorem Ym : typeOf (.builtin "re.Pattern.search") = pure (.type "method_descriptor"):=by kernel_rfl
theorem XR : PlainAttrs "re.Pattern" :=
 ⟨⟨"object.__getattribute__",by rw [typeLookup_type,builtinLookup_eq_fast]; kernel_rfl,by decide +kernel⟩,by rw [typeLookup_type,builtinLookup_eq_fast]; kernel_rfl⟩
noncomputable def Zw : Nat → Sre.M → Option Sre.M
 | 0,_ => none
 | n + 1,m => if (m.runFor 4).outcome.isSome = true then some (m.runFor 4) else Zw n (m.runFor 4)
noncomputable def yy (code : Array Nat) (x : Str) : Bool:=match Zw (x.cps.size + 5) (Sre.forSearch code x.cps 0 0 x.cps.size false) with
 | some m => (match m.outcome with | some .failed => true | _ => false)
 | none => false
section
variable {prog : Program} {w : World} {A : Around} {B : Heap} {s₀ s : Shared} {Own₀ M₀ Own M : Addr → Prop} {names : zJ} {env : Env} {ρ : List (Str × RV)} {μ : List (Addr × D)} {h : Heap} {k : Nat}
 {E : Value → Shared → Prop} {rest : List Stmt} {mg mb : Str → Option Value}
theorem kL {Q : Sre.M → Shared → Prop} : ∀ (n k : Nat) (m m' : Sre.M),Zw n m = some m' → n ≤ k → Q m' s → wpAny (model prog w) A (Builtin.Re.reDrive k m) Q E s
 | 0,_,_,_,h,_,_ => by cases h
 | n + 1,0,_,_,_,h,_ => by omega
 | n + 1,k + 1,m,m',h,hk,hq => by
  rw [Zw] at h
  unfold Builtin.Re.reDrive
  show wpAny _ _ (if (m.runFor 4).outcome.isSome = true then pure (m.runFor 4) else (rule "sre.turn" >>= fun _ => Builtin.Re.reDrive k (m.runFor 4))) Q E s
  by_cases ho : (m.runFor 4).outcome.isSome = true
  · rw [if_pos ho] at h ⊢
    cases h
    exact wpAny_pure hq
  · rw [if_neg ho] at h ⊢
    exact wpAny_bind (wpAny_rule (kL n k _ _ h (by omega) hq))
theorem Z4 (m : Sre.M) {Q : PUnit → Shared → Prop} (hq : Q ⟨⟩ s) : ∀ l : List Nat,wpAny (model prog w) A (forIn l PUnit.unit fun i _ => if m.seen.has i = true then (do rule (Sre.names.getD i ""); pure (ForInStep.yield PUnit.unit)) else pure (ForInStep.yield PUnit.unit)) Q E s
 | [] => by rw [List.forIn_nil]; exact wpAny_pure hq
 | i :: l => by
  rw [List.forIn_cons]
  refine wpAny_bind ?_
  by_cases hi : m.seen.has i = true
  · rw [if_pos hi]
    exact wpAny_bind (wpAny_rule (wpAny_pure (Z4 m hq l)))
  · rw [if_neg hi]
    exact wpAny_pure (Z4 m hq l)
structure q6 (B : Heap) (a : Addr) (code : Array Nat) : Prop where
 ob : ∃ o vs c its n,B.get? a = some o ∧ o.cls = .type "re.Pattern" ∧ o.dict = none ∧ o.data = .fields vs ∧ Builtin.Re.reRawNat (vs.getD 6 .none) = 0 ∧ Builtin.Re.reRawNat (vs.getD 2 .none) = 0 ∧ vs.getD 5 .none = .ref c ∧
  (∃ oc,B.get? c = some oc ∧ oc.data = .seq its n) ∧ (its.map Builtin.Re.reRawOf).map (·.toNat) = code
theorem XF {a : Addr} {code : Array Nat} {x : Str} {t : Tok} {Q : Value → Shared → Prop} (P : q6 B a code) (X : zR B s.heap) (hx : yy code x = true) (hs : x.cps.size < 2 ^ 63) (hQ : Q .none s) :
  wpAny (model prog w) A (PySem.call (.builtin "re.Pattern.search") [.ref a,.str x t]) Q E s:=by
 obtain ⟨o,vs,c,its,n,ho,hc,hdi,hd,h6,h2,h5,⟨oc,hoc,hocd⟩,hcode⟩:=P.ob
 have ho':=X _ _ ho
 have hoc':=X _ _ hoc
 refine wpAny_call_entry jk ⟨o,ho',hc⟩ YK ?_ (Yk _ _)
 unfold Builtin.«re.Pattern.search» Builtin.Re.reTarget
 have hm : ∀ (r : Builtin.Re.ReTarget),r.code = code → r.text = x.cps → r.groups = 0 → r.pos = 0 → r.lim = x.cps.size → wpAny (model prog w) A.in1 (Builtin.Re.reAnswer r (Sre.forSearch r.code r.text r.groups r.pos r.lim false)) (fun fin s' => ∃ v,fin = .done (.ret v) ∧ Q v s') E s:=by
  intro r h1 h2 h3 h4 h5
  rw [h1,h2,h3,h4,h5]
  unfold yy at hx
  split at hx
  · rename_i m hm
    unfold Builtin.Re.reAnswer Builtin.Re.reRunToEnd
    refine wpAny_bind (wpAny_bind (kL _ _ _ _ hm (by have : (2 : Nat) ^ 63 + 5 ≤ 2 ^ 64:=(by decide); omega) ?_))
    refine wpAny_bind (Z4 m ?_ _)
    split at hx
    · rename_i hf
      rw [hf]
      exact wpAny_pure (wpAny_pure ⟨_,rfl,hQ⟩)
    · cases hx
  · cases hx
 refine wpAny_bind ?_
 refine wpAny_bind (m:=Builtin.Re.reNamed _ _ _ _ _ _) (wpAny_of_eq (a:=[some (.str x t),none,none]) (by first | rfl | kernel_rfl!) ?_)
 refine wpAny_bind (wpAny_pure ?_)
 refine wpAny_bind (wpAny_pure ?_)
 refine wpAny_bind (wpAny_fieldsOf ho' hd ?_)
 refine wpAny_bind (m:=Builtin.Re.reTextOf _) (wpAny_of_eq (a:=(x.cps,0)) (by rfl) ?_)
 dsimp only
 rw [h6]
 rw [if_neg (by decide),if_neg (by decide)]
 refine wpAny_bind (m:=Builtin.Re.reNoCollectionInside _ _) (wpAny_of_eq (a:=()) (by rfl) ?_)
 rw [h5]
 unfold Builtin.Re.reRawItems
 refine wpAny_bind (wpAny_bind (wpAny_seqItems hoc' hocd (wpAny_pure (wpAny_pure ?_))))
 refine hm _ hcode rfl h2 (by simp) ?_
 show min ((2 : Int) ^ 63 - 1).toNat x.cps.size = x.cps.size
 have : ((2 : Int) ^ 63 - 1).toNat = 2 ^ 63 - 1:=by decide
 rw [this]
 omega
theorem Ev.search {xv : Str} {a : Addr} {code : Array Nat} {x : Str} {e : Expr} {xp apos pos : Pos} (S : En prog w B names env h M ρ μ) (R : Rm A 0) (hm : (xv,RV.val (.ref a)) ∈ ρ) (hdb : (xv == ("__debug__" : Str)) = false) (P : q6 B a code) (he : Ev prog w A h e env (PR prog w M (.str x)))
  (hx : yy code x = true) (hs : x.cps.size < 2 ^ 63) (hst : ∀ rest,starEach (e :: rest) env = (false,eval e env) :: starEach rest env) (hline : (apos.endLine == pos.line) = true) :
  Ev prog w A h (.Call (.Attribute (.Name xv xp) (Str.ofString "search") apos) [e] [] pos) env (PS prog w M .none):=by
 obtain ⟨o,vs,c,its,n,ho,hc,hdi,r⟩:=P.ob
 refine Ev.methO S R (a:=a) (ob:=o) (ds:=[.str x]) (Ev.mono (Ev.var S hm hdb) fun _ _ z => z) ho hc hdi XR jk Ym (.cons he .nil hst) (by rfl) (by rfl) hline ?_
 intro A M s E Q vs _ X old rs hQ
 obtain ⟨v,rfl,rv⟩:=rs.one_inv
 obtain ⟨t,rfl⟩:=rv.str_inv
 exact XF P X hx hs (hQ _ _ (zF s) .none)
theorem zH.type (x : Str) : zH prog w k B (.type "type") [.str x] (.typ "str"):=by
 intro A M s E Q vs R X old rs hQ
 obtain ⟨v,rfl,r⟩:=rs.one_inv
 obtain ⟨t,rfl⟩:=r.str_inv
 exact call_type_of (Tx := "str") (x:=.str x t) rfl (by decide) (hQ _ _ (zF s) (.typ _))
theorem zH.typeI (x : Int) : zH prog w k B (.type "type") [.int x] (.typ "int"):=by
 intro A M s E Q vs R X old rs hQ
 obtain ⟨v,rfl,r⟩:=rs.one_inv
 obtain ⟨t,rfl⟩:=r.int_inv
 exact call_type_of (Tx := "int") (x:=.int x t) rfl (by decide) (hQ _ _ (zF s) (.typ _))
theorem zH.typeL (xs : List D) : zH prog w k B (.type "type") [.list xs] (.typ "list"):=by
 intro A M s E Q vs R X old rs hQ
 obtain ⟨v,rfl,r⟩:=rs.one_inv
 obtain ⟨a,us,rfl,⟨n,p⟩,_⟩:=r.list_inv
 exact call_type_of (Tx := "list") (x:=.ref a) (show s.TypeIs (.ref a) "list" from ⟨_,p,rfl⟩) (by decide) (hQ _ _ (zF s) (.typ _))
end
noncomputable abbrev Y1 : Obj:={ cls:=.type "dict",data:=.dict #[] }
section
variable {prog : Program} {w : World} {A : Around} {B : Heap} {s₀ s : Shared} {Own₀ M₀ Own M : Addr → Prop} {names : zJ} {env : Env} {ρ : List (Str × RV)} {μ : List (Addr × D)} {h : Heap} {k : Nat}
 {E : Value → Shared → Prop} {Q : Flow → Shared → Prop} {rest : List Stmt} {mg mb : Str → Option Value}
theorem WK {a : Addr} (e : h.get? a = some Y1) : h.DictAt (strKind prog w) a [] 0 :=
 ⟨_,#[],e,⟨rfl,rfl,rfl⟩,rfl,fun _ he => absurd he (by simp),.nil,List.nodup_nil⟩
theorem ZE {target : Expr} {body : List Stmt} {x : Str} {xp apos cpos pos : Pos} {a : Addr} (S : St prog w B s₀ Own₀ M₀ names env Own M ρ μ s) (R : Rm A 0) (hm : (x,RV.dat (.ob a Y1)) ∈ ρ) (hdb : (x == ("__debug__" : Str)) = false) (hl : (apos.endLine == cpos.line) = true) (hsys : (a == sysModules) = false)
  (hfs : ∀ y,foldedSetIterable (.Call (.Attribute (.Name x xp) (Str.ofString "items") apos) [] [] cpos) env y = pure y)
  (k : ∀ s',St prog w B s₀ Own₀ M₀ names env Own M ρ μ s' → wpAny (model prog w) A (execs rest env) Q E s') :
  wpAny (model prog w) A (execs (.For target (.Call (.Attribute (.Name x xp) (Str.ofString "items") apos) [] [] cpos) body [] pos :: rest) env) Q E s:=by
 obtain ⟨v,hv,hr⟩:=S.e.vars x _ hm
 obtain ⟨rfl,ea,ma⟩:=Rp.ob_inv hr
 have hd:=WK (prog:=prog) (w:=w) ea
 refine wpAny_execs_cons (wpAny_For (wpAny_Call_items (knd:=strKind prog w) (kvs:=[]) hsys hd.dictOf rfl hl (fun Q' hq => Zs S.e.n hv hdb hq) ?_) hfs)
 refine wpAny_pyIter_items (knd:=strKind prog w) (d:=a) (kvs:=[]) (ep:=0) ⟨_,Heap.get?_push_size _ rfl,rfl,rfl⟩ (hd.push _) ?_
 refine codeAny_forLoop_any (fun n s' => s' = { s with heap:=(s.heap.push { cls:=.type "dict_items",data:=.fields #[.ref a] }).push { cls:=.type "dict_itemiterator",data:=.fields #[.none,.bool false,.ref a,.int 0 0,.int ([] : List (Str × Value)).length 0,.int 0 0,.none,.none] } }) ?_ 0 rfl
 rintro n s' rfl
 refine wpAny_pyNext_items_end (knd:=strKind prog w) (i:=0) (kvs:=[]) (ep:=0) (ok:=.none) (ov:=.none) R.hh (Heap.get?_push_size _ rfl) ((hd.push _).push _) rfl fun h' he => wpAny_execs_nil ?_
 refine k _ (S.step ⟨h',s.toks,rfl,fun b o e => he b o ?_ (Heap.get?_push_of_some _ (Heap.get?_push_of_some _ e))⟩)
 rw [Heap.size_push]
 exact Nat.ne_of_lt (Nat.lt_succ_of_lt (Heap.lt_size e))
theorem Ev.ifExpR {t x y : Expr} {p : Pos} {b : Bool} {R : Heap → Value → Prop} (ht : Tv prog w A h t env b) (hx : b = true → Ev prog w A h x env R) (hy : b = false → Ev prog w A h y env R) : Ev prog w A h (.IfExp t x y p) env R:=by
 intro s E Q k hQ
 refine wpAny_IfExp (ht s E _ k fun s₁ k₁ => ?_)
 cases b with
 | true => exact hx rfl s₁ E Q (k.trans (ke k₁)) fun u s₃ k₃ q => hQ u s₃ (zA k₁ k₃) q
 | false => exact hy rfl s₁ E Q (k.trans (ke k₁)) fun u s₃ k₃ q => hQ u s₃ (zA k₁ k₃) q
theorem Ev.place {o : Expr} {a : Addr} {d : D} (S : En prog w B names env h M ρ μ) (ho : Ev prog w A h o env (fun _ u => u = .ref a)) (hc : (a,d) ∈ μ) : Ev prog w A h o env (PR prog w M d):=by
 intro s E Q k hQ
 exact ho s E Q k fun v s' ks r => hQ v s' ks (.inr ⟨a,r,(S.mem a d hc).ext (k.trans (ke ks))⟩)
theorem JY {k : Nat} (S : St prog w B s₀ Own₀ M₀ names env Own M ρ μ s) (R : Rm A k) {o : Expr} {apos pos pos2 : Pos} {name : Str} {T id : String} {es : List Expr} {a : Addr} {d d' : D} {ds : List D} {pre post : List (Addr × D)}
   (hov : Ev prog w A s.heap o env (fun _ u => u = .ref a)) (hμ : μ = pre ++ (a,d) :: post) (ho : Own a) (hT : Jw d = some T) (pa : PlainAttrs T) (slot : Slot T name id) (hty : typeOf (.builtin id) = pure (.type "method_descriptor"))
   (hx : ZU prog w A s.heap env M es ds) (hbase : attributeBase o name env (eval o env) = eval o env) (hfew : decide (es.length + 0 + 0 < 30) = true) (hline : (apos.endLine == pos.line) = true) (hc : xI prog w k (.builtin id) d ds d' .none)
   (hs : swapsWith (.Call (.Attribute o name apos) es [] pos) none pos2.line env = pure false)
   (hQ : ∀ s',St prog w B s₀ Own₀ M₀ names env Own M ρ (pre ++ (a,d') :: post) s' → wpAny (model prog w) A (execs rest env) Q E s') :
   wpAny (model prog w) A (execs (.Expr (.Call (.Attribute o name apos) es [] pos) pos2 :: rest) env) Q E s:=by
 refine xk S.e.n ?_ hs
 have hc0:=S.e.mem a d (by rw [hμ]; simp)
 refine PySem.wpAny_Call_method hbase ?_ hline pa slot hty (hov s E _ (zR.refl _) fun ov s₁ k₁ r => ?_)
 · rw [hx.rd.few]; exact hfew
 subst r
 have rr : Rd prog w s₁.heap M (.ref a) d:=.inr ⟨a,rfl,hc0.ext (ke k₁)⟩
 refine ⟨(vE hT rr).1,(vE hT rr).2, ?_⟩
 refine PySem.Calls.callWith_builtin hx.rd.noStar ?_
 refine wX hx (ke k₁) fun vs s₂ k₂ rs => ?_
 have S₂:=S.step (zA k₁ k₂)
 refine hc A M s₂ E _ a vs R (S.own a ho) (hc0.ext ((ke k₁).trans (ke k₂))) rs fun v s' ef c' rv => hQ s' ?_
 obtain ⟨h',tk,rfl,kk⟩:=ef
 exact S₂.effect1 hμ ho (fun b o n e => kk b o (by simpa using n) e) c'
theorem jK.ev {e : Expr} {xs : List D} (S : En prog w B names env h M ρ μ) (x : jK prog w A h e env M (.list xs)) : Ev prog w A h e env (PS prog w M (.list xs)):=by
 intro s E Q k hQ
 refine x s E Q k fun a s' ks n c => hQ _ s' ks ?_
 obtain ⟨vs,p,q⟩:=c.list_inv
 refine .list p (fun m => ?_) (q.less fun b m => .inl m)
 obtain ⟨o,e⟩:=S.old a m
 rw [k _ _ e] at n; cases n
theorem jK.slice {value : Expr} {lower upper step : Option Expr} {p pos : Pos} {xs : List D} {lo hi st : Option Int} (S : En prog w B names env h M ρ μ)
   (hv : Ev prog w A h value env (PR prog w M (.list xs))) (hl : zd prog w A h M lower env lo) (hu : zd prog w A h M upper env hi) (hs : zd prog w A h M step env st) (h0 : st ≠ some 0) (hsz : xs.length ≤ sizeLine) :
   jK prog w A h (.Subscript value (.Slice lower upper step p) pos) env M (.list (zl xs lo hi st)):=by
 intro s E Q k hQ
 refine Subscript_ (hv s E _ k fun o s₁ k₁ ro => wpAny_Slice ?_)
 refine hl s₁ E _ (k.trans (ke k₁)) fun vl s₂ k₂ pl => ?_
 refine hu s₂ E _ (k.trans ((ke k₁).trans (ke k₂))) fun vu s₃ k₃ pu => ?_
 refine hs s₃ E _ (k.trans ((ke k₁).trans ((ke k₂).trans (ke k₃)))) fun vst s₄ k₄ pst => ?_
 obtain ⟨a,vs,rfl,pl',q⟩:=(((ro.ext (ke k₂)).ext (ke k₃)).ext (ke k₄)).list_inv
 have kk:=zA k₁ (zA k₂ (zA k₃ k₄))
 have pl2 : (s₄.heap.push { cls:=.type "slice",data:=.fields #[vl,vu,vst] }).PlainList a vs.toArray:=pl'.at fun o e => Heap.get?_push_of_some _ e
 obtain ⟨ops,hso⟩:=zh (.Slice lower upper step p) (.ref a) (.ref s₄.heap.objs.size)
 have k5:=zA kk (zQ s₄ { cls:=.type "slice",data:=.fields #[vl,vu,vst] } s₄.toks)
 refine tail_any (s:={ s₄ with heap:=s₄.heap.push { cls:=.type "slice",data:=.fields #[vl,vu,vst] } }) pl2.isList.typeIs slot_list_getitem.lookup
   (wpAny_getItem_list_slice pl2.isList (Heap.IsSliceOf.new ..) pl pu pst h0 (hQ _ _ (zA k5 (zQ _ _ s₄.toks)) (yj k5 (zS _)) ?_) (by rw [List.size_toArray,q.length]; exact hsz)) hso
 have e : slicePick vs.toArray lo hi st = (zl vs lo hi st).toArray:=by
   unfold slicePick zl
   simp
 rw [e]
 refine .list (vs:=zl vs lo hi st) ⟨0,Heap.get?_push_size _ rfl⟩ (zE.to (h:=(s₄.heap.push { cls:=.type "slice",data:=.fields #[vl,vu,vst] })) (fun a o m e => ⟨Heap.get?_push_of_some _ e,fun z => z.elim m fun z => by rw [z,zS] at e; cases e⟩) ?_)
 · unfold zl
   rw [q.length]
   exact (q.pick _).ext fun _ _ e => Heap.get?_push_of_some _ e
end
section
variable {prog : Program} {w : World} {A : Around} {B : Heap} {s : Shared} {M₁ : Addr → Prop} {k : Nat} {E : Value → Shared → Prop} {Q : Value → Shared → Prop} {mg mb : Str → Option Value}
theorem wy (G : Gl B mg mb) {d : Stmt} {f : Addr} {fd : FuncData} (H : yB B d f fd) {args : Args} {binds : List (Str × Value)} (hb : BindsTo s fd args binds) (hn : (binds.map (·.1)).Nodup) (hk : (binds.all fun p => zY (zZ d).names p.1) = true) (R : Rm A (k + 1)) (X : zR B s.heap) (hold : ∀ a,M₁ a → ∃ o,s.heap.get? a = some o)
   (Own₀ : Addr → Prop) (hO : ∀ a,Own₀ a → M₁ a ∧ B.get? a = none) (ρ₀ : List (Str × RV)) (hρ : ∀ x r,(x,r) ∈ ρ₀ → ∃ v,(x,v) ∈ binds ∧ zm prog w s.heap M₁ v r) (μ₀ : List (Addr × D)) (hμ : ∀ a d,(a,d) ∈ μ₀ → zc prog w s.heap M₁ a d) (hnd : (μ₀.map (·.1)).Nodup)
   (run : ∀ env Own M s₁,(∃ L,env = zW fd L f) → Rm (A.deeper env) k → (∀ a,Own₀ a → Own a) → (∀ a,M a → M₁ a ∨ s.heap.get? a = none) → St prog w B s Own₀ M₁ (zZ d).names env Own M ρ₀ μ₀ s₁ →
    wpAny (model prog w) (A.deeper env) (execs (zC d) env) (fun fl s' => Q (match fl with | .ret v => v | _ => .none) s') (fun _ _ => False) s₁) :
   wpAny (model prog w) A (PySem.call (.ref f) args.pos args.kw) Q E s:=by
 obtain ⟨o,ho,hd,_⟩:=H.get
 refine wpAny_call (ja (M₀:=M₁) (Own₀:=Own₀) (B:=B) H.ok R (X f o ho) hd G.lim X (ze H.code X) H.body hb hn ?_ hold hO (fun x c e => by rw [H.clo] at e; cases e) ρ₀ (fun x r hm => .inl (hρ x r hm)) μ₀ hμ hnd ?_)
 · rw [H.scope]; exact hk
 · intro env Own M s₁ hL R' hO' hMM S
   rw [H.scope] at S
   exact wpAny_mono (run env Own M s₁ hL R' hO' hMM S) (fun fl s' q => q) fun _ _ x => x.elim
theorem QW (G : Gl B mg mb) {d : Stmt} {f : Addr} {fd : FuncData} (H : yB B d f fd) {sa : Shared} {args : Args} {binds : List (Str × Value)} (hka : Keeps sa s) (hb : ∀ (M : Model) (A : Around) (E : Value → Shared → Prop) (Q : List (Str × Value) → Shared → Prop),Q binds s → wpAny M A (bindArgs fd args) Q E sa) (hn : (binds.map (·.1)).Nodup) (hk : (binds.all fun p => zY (zZ d).names p.1) = true) (R : Rm A (k + 1)) (X : zR B sa.heap) (hold : ∀ a,M₁ a → ∃ o,s.heap.get? a = some o)
   (Own₀ : Addr → Prop) (hO : ∀ a,Own₀ a → M₁ a ∧ B.get? a = none) (ρ₀ : List (Str × RV)) (hρ : ∀ x r,(x,r) ∈ ρ₀ → ∃ v,(x,v) ∈ binds ∧ zm prog w s.heap M₁ v r) (μ₀ : List (Addr × D)) (hμ : ∀ a d,(a,d) ∈ μ₀ → zc prog w s.heap M₁ a d) (hnd : (μ₀.map (·.1)).Nodup)
   (run : ∀ env Own M s₁,(∃ L,env = zW fd L f) → Rm (A.deeper env) k → (∀ a,Own₀ a → Own a) → (∀ a,M a → M₁ a ∨ s.heap.get? a = none) → St prog w B s Own₀ M₁ (zZ d).names env Own M ρ₀ μ₀ s₁ →
    wpAny (model prog w) (A.deeper env) (execs (zC d) env) (fun fl s' => Q (match fl with | .ret v => v | _ => .none) s') (fun _ _ => False) s₁) :
   wpAny (model prog w) A (PySem.call (.ref f) args.pos args.kw) Q E sa:=by
 obtain ⟨o,ho,hd,_⟩:=H.get
 refine wpAny_call (K4 (M₀:=M₁) (Own₀:=Own₀) (B:=B) H.ok R (X f o ho) hd G.lim (X.trans (ke hka)) (ze H.code X) H.body hb hn ?_ hold hO (fun x c e => by rw [H.clo] at e; cases e) ρ₀ (fun x r hm => .inl (hρ x r hm)) μ₀ hμ hnd ?_)
 · rw [H.scope]; exact hk
 · intro env Own M s₁ hL R' hO' hMM S
   rw [H.scope] at S
   exact wpAny_mono (run env Own M s₁ hL R' hO' hMM S) (fun fl s' q => q) fun _ _ x => x.elim
end
section
variable {prog : Program} {w : World} {A : Around} {B : Heap} {s₀ s : Shared} {M₀ Own M : Addr → Prop} {names : zJ} {env : Env} {ρ : List (Str × RV)} {μ : List (Addr × D)}
theorem St.keeps (S : St prog w B s₀ (fun _ => False) M₀ names env Own M ρ μ s) : Keeps s₀ s:=by
 obtain ⟨h',tk,e⟩:=S.same
 refine ⟨h',tk,e,fun a o q => ?_⟩
 have:=S.keep a o (fun x => x) q
 rw [e] at this; exact this
theorem St.eff {L : Addr} (S : St prog w B s₀ (fun a => a = L) M₀ names env Own M ρ μ s) : Yb [L] s₀ s:=by
 obtain ⟨h',tk,e⟩:=S.same
 refine ⟨h',tk,e,fun a o n q => ?_⟩
 have:=S.keep a o (by simpa using n) q
 rw [e] at this; exact this
end
noncomputable def v8 : List Str → List D → Str → Option D
 | k :: ks,d :: ds,x => if k = x then some d else v8 ks ds x
 | _,_,_ => none
noncomputable def jw (ks : List Str) (x : Str) : List Str:=if ks.contains x then ks else ks ++ [x]
noncomputable def ZS (ks : List Str) (ds : List D) (x : Str) (d : D) : List D:=if ks.contains x then (ks.zip ds).map (fun p => if p.1 = x then d else p.2) else ds ++ [d]
section
variable {prog : Program} {w : World} {A : Around} {B : Heap} {s₀ s : Shared} {Own₀ M₀ Own M : Addr → Prop} {names : zJ} {env : Env} {ρ : List (Str × RV)} {μ : List (Addr × D)} {h : Heap} {k : Nat}
 {E : Value → Shared → Prop} {Q : Flow → Shared → Prop} {rest : List Stmt} {mg mb : Str → Option Value}
theorem Z9 {x : Str} : ∀ {ks : List Str} {vs : List Value} {ds : List D},ks.length = vs.length → zE prog w h M vs ds → match v8 ks ds x with
  | none => valueAt (ks.zip vs) x = none
  | some d => ∃ v,valueAt (ks.zip vs) x = some v ∧ Rp prog w h M v d
 | [],_,_,_,_ => rfl
 | k :: ks,[],_,hl,_ => by cases hl
 | k :: ks,v :: vs,_,hl,.cons (d:=d) (ds:=ds) r rs => by
  rw [v8,List.zip_cons_cons]
  unfold valueAt
  rw [List.find?_cons]
  by_cases hk : k = x
  · simp only [hk,decide_true,if_true]
    exact ⟨v,rfl,r⟩
  · simp only [hk,decide_false,if_false]
    exact Z9 (ks:=ks) (by simpa using hl) rs
theorem zH.dget (ks : List Str) (ds : List D) (x : Str) : zH prog w k B (.builtin "dict.get") [.dct ks ds,.str x] ((v8 ks ds x).getD .none):=by
 intro A M s E Q vs R X old rs hQ
 obtain ⟨v,u,rfl,r1,r2⟩:=rs.two_inv
 obtain ⟨a,us,rfl,p,hl,q,g⟩:=r1.dct_inv
 obtain ⟨t,rfl⟩:=r2.str_inv
 have hv:=Z9 (x:=x) hl q
 refine call_meetsIn F.slot_dict_get p.typeIs F.entry_dict_get (F.args_dict_get_2 _ _) (meets_dict_get (strKind prog w) a (strKind_is prog w x t) g) ⟨_,p.mapOf, ?_⟩
 cases hd : v8 ks ds x with
 | none => rw [hd] at hv hQ; rw [hv]; exact hQ _ _ (zI s _) .none
 | some d =>
  rw [hd] at hv hQ
  obtain ⟨v,e,r⟩:=hv
  rw [e]
  exact hQ _ _ (zI s _) r
theorem Ev.itemD {value slice : Expr} {pos : Pos} {ks : List Str} {ds : List D} {x : Str} {d : D}
  (hv : Ev prog w A h value env (PR prog w M (.dct ks ds))) (hi : Ev prog w A h slice env (PR prog w M (.str x))) (hd : v8 ks ds x = some d) : Ev prog w A h (.Subscript value slice pos) env (PS prog w M d):=by
 intro s E Q k hQ
 refine Subscript_ (hv s E _ k fun o s₁ k₁ ro => hi s₁ E _ (k.trans (ke k₁)) fun iv s₂ k₂ ri => ?_)
 obtain ⟨t,rfl⟩:=ri.str_inv
 obtain ⟨a,vs,rfl,p,hl,q,g⟩:=(ro.ext (ke k₂)).dct_inv
 have hv:=Z9 (x:=x) hl q
 rw [hd] at hv
 obtain ⟨v,e,r⟩:=hv
 obtain ⟨ops,hs⟩:=zh slice (.ref a) (.str x t)
 exact tail_any p.typeIs F.slot_dict_getitem.lookup (wpAny_getItem_of (knd:=strKind prog w) (strKind_is prog w x t) p.mapOf e (hQ v _ (zA k₁ (zA k₂ (zI s₂ _))) r)) hs
theorem XN (x : Str) (v : Value) (d : D) (rv : Rp prog w h M v d) {ks : List Str} {vs : List Value} {ds : List D} (hl : ks.length = vs.length) (r : zE prog w h M vs ds) :
   ∃ vs',stored (ks.zip vs) x v = (jw ks x).zip vs' ∧ (jw ks x).length = vs'.length ∧ zE prog w h M vs' (ZS ks ds x d):=by
 have hany : ((ks.zip vs).any fun kv => decide (kv.1 = x)) = ks.contains x:=by
   clear r
   induction ks generalizing vs with
   | nil => rfl
   | cons y ks ih =>
     cases vs with
     | nil => cases hl
     | cons u vs =>
      rw [List.zip_cons_cons,List.any_cons,List.contains_cons,ih (by simpa using hl)]
      congr 1
      by_cases hy : y = x
      · subst hy; simp
      · have : ¬ x = y:=fun z => hy z.symm
        simp [hy,this]
 unfold stored jw ZS
 rw [hany]
 by_cases hc : ks.contains x = true
 · rw [if_pos hc,if_pos hc,if_pos hc]
   refine ⟨(ks.zip vs).map fun p => if p.1 = x then v else p.2, ?_, ?_, ?_⟩
   · clear r hany hc
     induction ks generalizing vs with
     | nil => rfl
     | cons y ks ih =>
      cases vs with
      | nil => cases hl
      | cons u vs =>
        simp only [List.zip_cons_cons,List.map_cons]
        rw [ih (by simpa using hl)]
        by_cases hy : y = x <;> simp [hy]
   · simp [hl]
   · clear hany hc
     induction ks generalizing vs ds with
     | nil => exact .nil
     | cons y ks ih =>
      cases r with
      | nil => cases hl
      | cons r0 r =>
        simp only [List.zip_cons_cons,List.map_cons]
        by_cases hy : y = x
        · simp only [hy,if_true]; exact .cons rv (ih (by simpa using hl) r)
        · simp only [hy,if_false]; exact .cons r0 (ih (by simpa using hl) r)
 · rw [if_neg hc,if_neg hc,if_neg hc]
   refine ⟨vs ++ [v], ?_,by simp [hl],r.append (.cons rv .nil)⟩
   rw [List.zip_append hl]; rfl
theorem YU (S : St prog w B s₀ Own₀ M₀ names env Own M ρ μ s) {x : Str} {xp spos pos : Pos} {ie e : Expr} {a : Addr} {ks : List Str} {ds : List D} {y : Str} {d : D} {pre post : List (Addr × D)}
  (hm : (x,RV.adr a) ∈ ρ) (hdb : (x == ("__debug__" : Str)) = false) (hμ : μ = pre ++ (a,.dct ks ds) :: post) (ho : Own a) (he : Ev prog w A s.heap e env (PS prog w M d)) (hi : Ev prog w A s.heap ie env (PR prog w M (.str y)))
  (hz : ks.length ≤ 100000) (hs : swapsWith e (some (.Subscript (.Name x xp) ie spos)) pos.line env = pure false)
  (hQ : ∀ s',St prog w B s₀ Own₀ M₀ names env Own M ρ (pre ++ (a,.dct (jw ks y) (ZS ks ds y d)) :: post) s' → wpAny (model prog w) A (execs rest env) Q E s') :
  wpAny (model prog w) A (execs (.Assign [.Subscript (.Name x xp) ie spos] e pos :: rest) env) Q E s:=by
 refine wpAny_execs_cons (wpAny_Assign_Subscript (he s E _ (zR.refl _) fun v s₁ k₁ rv => ?_) hs)
 refine (Ev.var (S.e.ext (ke k₁)) hm hdb) s₁ E _ (zR.refl _) fun ov s₂ k₂ r => ?_
 cases r
 refine hi s₂ E _ (ke (zA k₁ k₂)) fun iv s₃ k₃ ri => ?_
 obtain ⟨t,rfl⟩:=ri.str_inv
 have k123:=zA k₁ (zA k₂ k₃)
 have S₃:=S.step k123
 have hc:=S₃.e.mem a (.dct ks ds) (by rw [hμ]; simp)
 cases hc with
 | @dct _ us _ p hl g q =>
  refine wpAny_setItem_pairs (knd:=strKind prog w) (strKind_is prog w y t) p (fun h' p' sb => hQ _ ?_) (by rw [List.length_zip,sizeLine_eq]; omega)
  refine S₃.effect1 hμ ho (fun b o n e => (sb.2 b n).trans e) ?_
  have u:=yX sb (S.own a ho)
  obtain ⟨vs',e1,e2,e3⟩:=XN y v d (Rp.to u (rv.ext (ke (zA k₂ k₃)))) hl (zE.to u q)
  rw [e1] at p'
  exact .dct p' e2 g e3
theorem jK.dict0 {pos : Pos} (S : En prog w B names env h M ρ μ) (hsys : B.get? sysModules ≠ none) : jK prog w A h (.Dict [] [] pos) env M (.dct [] []):=by
 intro s E Q k hQ
 refine wpAny_Dict_empty (hQ _ _ (zQ s _ s.toks) (zS _) (.dct (vs:=[]) (WK (Heap.get?_push_size _ rfl)).dictOf rfl ?_ .nil))
 cases q : s.heap.objs.size == sysModules with
 | false => rfl
 | true =>
  exfalso
  cases e : B.get? sysModules with
  | none => exact hsys e
  | some o => have:=Heap.lt_size (k _ _ (S.base _ _ e)); rw [beq_iff_eq.mp q] at this; exact absurd this (Nat.lt_irrefl _)
theorem zH.index (xs : List Str) (x : Str) (j : Nat) (hj : xs[j]? = some x) (hno : ∀ i < j,xs[i]? ≠ some x) (hz : xs.length ≤ 1000) : zH prog w k B (.builtin "list.index") [.list (xs.map .str),.str x] (.int j):=by
 intro A M s E Q vs R X old rs hQ
 obtain ⟨v,u,rfl,r1,r2⟩:=rs.two_inv
 obtain ⟨a,us,rfl,⟨n,p⟩,q⟩:=r1.list_inv
 obtain ⟨t,rfl⟩:=r2.str_inv
 have hlen:=q.length
 rw [List.length_map] at hlen
 have hjl : j < xs.length:=(List.getElem?_eq_some_iff.mp hj).1
 have at' : ∀ (i : Nat) (hi : i < us.toArray.size),∃ t',us.toArray[i] = .str xs[i] t':=fun i hi => by
   have hi' : i < xs.length:=by simpa [hlen] using hi
   obtain ⟨v,e,r⟩:=q.get (i:=i) (d:=.str xs[i]) (by simp [hi'])
   obtain ⟨t',rfl⟩:=r.str_inv
   refine ⟨t', ?_⟩
   have : us.toArray[i]? = some (.str xs[i] t'):=by simpa using e
   rw [Array.getElem?_eq_getElem hi] at this
   exact Option.some.inj this
 have hja : j < us.toArray.size:=by simpa [hlen] using hjl
 refine call_meets F.slot_list_index ⟨_,p,rfl⟩ F.entry_list_index (F.args_list_index_2 _ _) (SeqAt.list_indexAt a us.toArray n none #[] (.str x t) (fun v => match v with | .str y _ => y == x | _ => false) j hja (by omega) ?_ ?_) ⟨p, ?_,hQ _ _ (zI s _) (.int _ _)⟩
 · obtain ⟨t',e⟩:=at' j hja
   have : xs[j] = x:=by have:=hj; rw [List.getElem?_eq_getElem hjl] at this; exact Option.some.inj this
   rw [e]; simp [this]
 · intro m hm hmj
   obtain ⟨t',e⟩:=at' m hm
   have hm' : m < xs.length:=by simpa [hlen] using hm
   have:=hno m hmj
   rw [List.getElem?_eq_getElem hm'] at this
   rw [e]
   simpa using fun z => this (by rw [z])
 · intro y hy
   have hy' : y ∈ us:=by simpa using hy
   obtain ⟨d,hd,r⟩:=q.mem hy'
   obtain ⟨z,_,rfl⟩:=List.mem_map.mp hd
   obtain ⟨t',rfl⟩:=r.str_inv
   exact (PyProof.Rows.eqGives_str z x t' t).at _ _
end
section
variable {prog : Program} {w : World} {A : Around} {B : Heap} {s₀ s : Shared} {Own₀ M₀ Own M : Addr → Prop} {names : zJ} {env : Env} {ρ : List (Str × RV)} {μ : List (Addr × D)} {h : Heap} {k : Nat}
 {E : Value → Shared → Prop} {rest : List Stmt}
theorem JX {fd : FuncData} {f : Addr} {fo : Obj} {params : Arguments} {body : List Stmt} {scope : Scope} {qual : Str} {c' : Addr} {cl : List (Str × Addr)} {B₀ : Heap} {x : Str} {xs : List D} {τ : Type} {P : τ → Prop} {μk : τ → List (Addr × D)} {step : τ → D → τ × D}
   (F : Z6 fd params (.stmts body) scope qual c' cl) (hf : qm scope = true) (hlim : B₀.NoLimit) (XB : zR B₀ B) (hfo : B.get? f = some fo) (hfd : fo.data = .func fd) (hco : B.CodeRec (.ref c') qual) (K : J7 prog w B M₀ scope ρ cl)
   (hb : ∀ v s,BindsTo s fd ⟨[v],[]⟩ [(x,v)]) (hx : zY scope.names x = true) (hT : ∀ c a y,(a,y) ∈ μk c → M₀ a ∧ B.get? a = none) (hnd : ∀ c,((μk c).map (·.1)).Nodup)
   (run : ∀ c d,P c → d ∈ xs → ∀ A env Own M s s₁ M1,Rm A k → zR B s.heap → (∀ a ∈ (μk c).map (·.1),Own a) → St prog w B s (fun a => a ∈ (μk c).map (·.1)) M1 scope.names env Own M ((x,.dat d) :: xV scope.names ρ) (μk c) s₁ →
     wpAny (model prog w) A (execs body env) (fun fl s' => ∃ v ρ',fl = .ret v ∧ St prog w B s (fun a => a ∈ (μk c).map (·.1)) M1 scope.names env Own M ρ' (μk (step c d).1) s' ∧ Rp prog w s'.heap M v (step c d).2) (fun _ _ => False) s₁) :
   ya prog w (k + 1) B M₀ f xs P μk step:=by
 intro A M s E Q c d v R hP X hM hM₁ old hd rv hμ hQ
 have hto : ∀ a o,¬ M₀ a → B.get? a = some o → s.heap.get? a = some o ∧ ¬ M a:=fun a o n e => ⟨X a o e,fun m => n (hM a o m e)⟩
 refine wpAny_call (ja (M₀:=M) (Own₀:=fun a => a ∈ (μk c).map (·.1)) (B:=B) (μ₀:=μk c) (ρ₀:=(x,.dat d) :: xV scope.names ρ) (WB F hf K.free K.apart) R (X f fo hfo) hfd (hlim.keeps XB) X (by rw [F.code,F.qn]; exact ze hco X) F.bod (hb v s) (by simp) ?_ old (fun a z => ?_) (fun y c e => ?_) ?_ hμ (hnd c) ?_)
 · rw [F.sco]; simp [hx]
 · obtain ⟨⟨a',y⟩,hm,rfl⟩:=List.mem_map.mp z
   exact ⟨hM₁ _ (hT c a' y hm).1,(hT c a' y hm).2⟩
 · rw [F.clo] at e; obtain ⟨u,q⟩:=K.has y c e; exact ⟨u,q.keeps X⟩
 · intro y r hm
   rcases List.mem_cons.mp hm with e | hm
   · cases e; exact .inl ⟨v,.head _,rv⟩
   · obtain ⟨c,u,e1,e2,e3,e4⟩:=K.cap y r hm
     refine .inr ⟨?_,e4,c,u,by rw [F.clo]; exact e1,e2.keeps X,e3.to hto⟩
     rw [F.sco]
     simpa using (List.mem_filter.mp hm).2
 · intro env Own M' s₁ _ R' hO _ S
   rw [F.sco] at S
   refine wpAny_mono (run c d hP hd _ env Own M' s s₁ M R' X (fun a z => hO a z) S) (fun fl s' q => ?_) fun _ _ x => x.elim
   obtain ⟨v,ρ',rfl,S',r⟩:=q
   obtain ⟨h',tk,e⟩:=S'.same
   refine hQ v s' ⟨h',tk,e,fun a o n q => ?_⟩ (fun a y hm => (S'.e.mem a y hm).to (fun _ e => e) fun b o m e => ⟨e,fun z => m (S'.more b z)⟩) (r.less S'.more)
   have:=S'.keep a o n q
   rw [e] at this; exact this
theorem zN.notInS_list (xs : List Str) (x : Str) (h : PyData.strOk x = true) (hs : (xs.all PyData.strOk) = true) : zN prog w .NotIn (.str x) (.list (xs.map .str)) (!xs.contains x):=by
 have:=zN.notInL (prog:=prog) (w:=w) (d:=.str x) (ds:=xs.map .str) (by
  rw [xz,List.all_eq_true]
  intro d hd
  obtain ⟨y,hy,rfl⟩:=List.mem_map.mp hd
  exact List.all_eq_true.mp hs y hy) h
 have e : ((xs.map D.str).any fun y => We y (.str x)) = xs.contains x:=by
  clear hs this
  induction xs with
  | nil => rfl
  | cons y ys ih =>
   rw [List.map_cons,List.any_cons,List.contains_cons,ih]
   congr 1
   simp only [We,xb,PyData.eqv]
   rw [Bool.eq_iff_iff]
   simp only [beq_iff_eq]
   exact ⟨fun e => e.symm,fun e => e.symm⟩
 rw [e] at this; exact this
end
section
variable {prog : Program} {w : World} {A : Around} {B : Heap} {s₀ s : Shared} {Own₀ M₀ Own M : Addr → Prop} {names : zJ} {env : Env} {ρ : List (Str × RV)} {μ : List (Addr × D)} {h : Heap} {k : Nat}
 {E : Value → Shared → Prop}
theorem JF {mg : Str → Option Value} {P : Addr} {qs : List (Pos × Str)} {pre post : List (Addr × D)} {ps : Array Value} {os : List (Addr × Obj)} (T : Tb B mg env P qs) (S : St prog w B s₀ Own₀ M₀ names env Own M ρ (pre ++ (P,.obs P (tabObj ps) os) :: post) s) (ho : Own P)
  {name : Str} {params : Arguments} {body : List Stmt} {scope : Scope} {pos : Pos} {rest : List Stmt} (hT : yN qs ps os) (hq : (pos,qualnameIn env name name) ∈ qs) (hn1 : codeAmong pos ps.toList = none) (hd0 : params.defaults = []) (hk0 : params.kw_defaults = []) (ha : annTrees params none env = []) (hc : yH names scope = true) (hx : zY names name = true) {Q : Flow → Shared → Prop}
  (hQ : ∀ f fo fd c' oc cl ps' os' s',fo.data = .func fd → Z6 fd params (.stmts body) scope (qualnameIn env name name) c' cl → vV oc (qualnameIn env name name) → yN qs ps' os' → (∀ x c,cl.lookup x = some c → env.cells.lookup x = some c) → (∀ x,(x,NameKind.free) ∈ scope.names → (cl.lookup x).isSome = true) →
    St prog w B s₀ Own₀ M₀ names env Own M ((name,.dat (.obs f fo [(c',oc)])) :: XJ name ρ) (pre ++ (P,.obs P (tabObj ps') os') :: post) s' → wpAny (model prog w) A (execs rest env) Q E s') (hcn : names.lookup name = some .local) :
  wpAny (model prog w) A (execs (.FunctionDef name params body [] none [] scope none name pos :: rest) env) Q E s:=by
 obtain ⟨cl,hcl,h1,h2⟩:=xM S.e.n hc
 obtain ⟨hgP,hb⟩:=T.ne S ho
 obtain ⟨mb,G⟩:=T.gl
 obtain ⟨c,hcode,C⟩:=T.code
 have hPt : s.heap.get? P = some (tabObj ps):=by
  have:=S.e.mem P _ (List.mem_append_right _ (.head _))
  cases this with | tab p _ => exact p
 have hg:=G.g.keeps S.e.base
 refine wpAny_execs_cons (nestDef_K hd0 hk0 ha ?_)
 refine makeFunction_K (mg:=mg) hcl S.e.n.glob hg hcode (C.keeps S.e.base) hPt hT.1 hn1 hgP hb fun c' ctv doc h' tk hx' hge hlt hrec htb => ?_
 obtain ⟨oc,hco,S',r⟩:=Qx S ho (tk:=tk) (fo:=fnMade name (qualnameIn env name name) params body scope cl doc ((mg "__name__").getD .none) c' ctv) hx' hge hlt hrec htb
 have hlo:=S.e.n.lo name hcn
 refine yD S'.e.n S'.f (.inl hcn) fun h₂ tk₂ F₂ hv hy hk => ?_
 have S₂:=S'.written (h':=h₂) (tk:=tk₂) F₂ (fun a o n e => (hk a n).trans e) (ρ':=(name,.dat (.obs h'.objs.size (fnMade name (qualnameIn env name name) params body scope cl doc ((mg "__name__").getD .none) c' ctv) [(c',oc)])) :: XJ name ρ) fun y u hm => by
  rcases List.mem_cons.mp hm with e2 | hm
  · cases e2; exact ⟨_,hv,r⟩
  · have hm2:=List.mem_filter.mp hm
    obtain ⟨u',hu,hr'⟩:=S'.e.vars y u hm2.1
    exact ⟨u',hy y u' (by simpa using hm2.2) hu,hr'⟩
 refine hQ _ _ _ c' oc cl _ _ _ rfl ⟨rfl,rfl,rfl,rfl,rfl,rfl,rfl,rfl,rfl,rfl⟩ hco (hT.more T.ap hq hn1 hco) h1 h2 S₂
theorem J7.hide {scope : Scope} {cl : List (Str × Addr)} {wr : List Addr} (K : J7 prog w h M scope ρ cl) (hw : ∀ a ∈ wr,M a ∧ ∀ v,¬ h.IsCell a v) : J7 prog w (hideAll h wr) M scope ρ cl:=by
 have hc : ∀ c v,h.IsCell c v → (hideAll h wr).IsCell c v:=fun c v q => by
   have n : c ∉ wr:=fun z => (hw c z).2 v q
   obtain ⟨o,e,d⟩:=q
   exact ⟨o,hideAll_get _ e n,d⟩
 refine ⟨fun x c e => ?_,fun x r hm => ?_,K.free,K.apart⟩
 · obtain ⟨v,q⟩:=K.has x c e; exact ⟨v,hc c v q⟩
 · obtain ⟨c,v,e1,e2,e3,e4⟩:=K.cap x r hm
   exact ⟨c,v,e1,hc c _ e2,e3.to fun a o n e => ⟨hideAll_get _ e fun z => n (hw a z).1,n⟩,e4⟩
theorem Ev.imeth {C N : Addr} {mN mA : Str → Option Value} {o : Expr} {d r : D} {dm : Stmt} {name : Str} {apos pos : Pos} {es : List Expr} {rs : List RV} {f : Addr} {fd : FuncData} {y : Option Value} (S : En prog w B names env h M ρ μ) (ho : Ev prog w A h o env (PS prog w M d)) (I : YQ prog w d C mA) (X : ClsAt B C N mN) (hf : mN name = some (.ref f)) (H : yB B dm f fd)
  (hng : mN "__getattribute__" = none) (hnh : mN "__getattr__" = none) (hB : typeLookup (.type "object") name = pure y) (hsh : mA name = none) (hx : jI prog w A h env M es rs) {pl : Sem Bool}
  (hcall : ∀ x vs s E Q,zR h s.heap → (∀ a,M a → ∃ o,s.heap.get? a = some o) → zR B s.heap → Rp prog w s.heap M (.ref x) d → zP prog w s.heap M vs rs → (∀ v s',Keeps s s' → Rp prog w s'.heap M v r → Q v s') → wpAny (model prog w) A (PySem.call (.ref f) (.ref x :: vs)) Q E s)
  (he : eval (.Call (.Attribute o name apos) es [] pos) env = (do
   let ov ← eval o env
   standAt apos.atName
   let (f,first) ← holding [ov] (getMethod ov name pl)
   callWith pos f first (backTo pos (starEach es env)) (backToKw pos (keywordEach [] env)))) :
  Ev prog w A h (.Call (.Attribute o name apos) es [] pos) env (PS prog w M r):=by
 intro s E Q kx hQ
 have hxk : jI prog w A s.heap env M es rs:=by
  clear he hcall
  induction hx with
  | nil => exact .nil
  | cons a _ b ih => exact .cons (a.ext kx) ih b
 refine kh (S.ext kx) (ho.ext kx) I X hf H hng hnh hB hsh hxk (fun x vs s' ks rx rs => ?_) he
 refine hcall x vs s' E Q (kx.trans (ke ks)) (fun a m => by obtain ⟨o,e⟩:=S.old a m; exact ⟨o,ke ks _ _ (kx _ _ e)⟩) (S.base.trans (kx.trans (ke ks))) rx rs fun v s'' k' rv => hQ v s'' (zA ks k') rv
end
example : True:=by
 (k_with "kd" => first | kernel_rfl | decide)
 (k_with "mem" => with_reducible first
 | exact Q4 | exact yo | exact xA | exact jM | exact j5 | exact K6 | exact zAN | exact zAI | exact zAJ | exact zAx | assumption
 | (refine' List.mem_append_left _ _; k_extra "mem")
 | (refine' List.mem_append_right _ _; k_extra "mem")
 | (refine' xh _ _; k_extra "mem"; k_extra "kd")
 | (refine' jA _ _; k_extra "mem"; k_extra "kd")
 | (refine' vc _ _; k_extra "mem"; k_extra "kd")
 | (refine' List.mem_cons_of_mem _ _; k_extra "mem"))
 (k_with "o" => first
  | (with_reducible first | exact Nat.zero_le _ | exact Nat.le_refl _ | assumption | exact Int.natCast_nonneg _ | exact Nat.le_of_lt (by assumption))
  | (with_reducible refine' Nat.le_trans (by assumption) _; decide)
  | (with_reducible refine' Nat.lt_of_lt_of_le (by assumption) _; decide)
  | (with_reducible refine' Nat.le_trans (Nat.le_of_lt (by assumption)) _; decide)
  | (with_reducible refine' vq (Nat.lt_of_lt_of_le (by assumption) _); decide)
  | (with_reducible refine' vq (Nat.lt_of_le_of_lt (by assumption) _); decide)
  | omega)
 (k_with "ari" => first | k_extra "o" | (simp only [sizeLine_eq,List.length_map,List.length_cons,List.length_nil,List.length_append]; k_extra "o") | (simp [sizeLine_eq,w8,okS,List.all_eq_true,Y3]; done) | (simp [sizeLine_eq]; omega) | (simp only [Builtin.Range.small,Bool.and_eq_true,decide_eq_true_eq]; omega) | (simp [w8,okS,List.all_eq_true]; intros; assumption) | (simp; omega))
 (k_with "slot" => with_reducible first | exact PySem.F.slot_str_startswith | exact PySem.F.slot_str_endswith | exact PySem.F.slot_str_find | exact PySem.F.slot_str_join | exact PySem.F.slot_str_lower | exact PySem.F.slot_str_upper | exact PySem.F.slot_str_swapcase | exact PySem.F.slot_str_count | exact PySem.F.slot_str_split | exact PySem.F.slot_list_append | exact PySem.F.slot_list_insert | exact PySem.F.slot_list_pop | exact PySem.F.slot_list_clear)
 (k_with "mty" => with_reducible first | exact PySem.F.type_str_startswith | exact PySem.F.type_str_endswith | exact PySem.F.type_str_find | exact PySem.F.type_str_join | exact PySem.F.type_str_lower | exact PySem.F.type_str_upper | exact PySem.F.type_str_swapcase | exact PySem.F.type_str_count | exact PySem.F.type_str_split | exact PySem.F.type_list_append | exact PySem.F.type_list_insert | exact PySem.F.type_list_pop | exact PySem.F.type_list_clear)
 (k_with "pa" => with_reducible first | exact PySem.F.plainAttrs_str | exact PySem.F.plainAttrs_list)
 (k_with "eq" => first | with_reducible assumption | ((with_reducible show zY _ _ = true); kernel_rfl) | ((with_reducible show (_ == _) = false); kernel_rfl) | exact rfl | decide | k_extra "pa" | k_extra "slot" | k_extra "mty" | ((with_reducible show IntMulOk _ _); mul_fits) | exact PyProof.noPylong_of_log2 (by decide +kernel) | k_extra "ari" | assumption)
 (k_with "S" => first | with_reducible assumption | exact St.e (by with_reducible assumption))
 (k_with "no" => first | (fail_if_success show (_ : Prop)) | k_extra "S")
 (k_with "nm" => first | k_extra "no" | k_extra "mem" | k_extra "kd")
 (k_with "gl" => first | k_extra "no" | (with_reducible first | assumption | exact Or.inl (by assumption) | exact Or.inr (by assumption) | exact Or.inl (zi.g (by assumption))) | exact (fun _ _ => Rp.str _ _) | exact (fun _ _ => Rp.int _ _) | k_extra "kd")
 (k_with "ev" => first
 | ((with_reducible refine' Ev.nameM _ _ _ _) <;> k_extra "nm")
 | ((with_reducible refine' Ev.rd _) <;> k_extra "z")
 | ((with_reducible refine' Ev.name _ _ _) <;> k_extra "nm")
 | ((with_reducible refine' Ev.glob _ _ _ _ _) <;> k_extra "gl")
 | ((with_reducible refine' Ev.globD _ _ _ _ _ _) <;> k_extra "gl")
 | ((with_reducible first | refine' Ev.const_int _ _ _ | refine' Ev.const_str _ _ _ | refine' Ev.const_bool _ _ _ | refine' Ev.const_none _ _ | refine' Ev.bin _ _ _ _ | refine' Ev.cmp _ _ _ _ _ | refine' Ev.not _ _ | refine' Ev.neg _ | refine' Ev.or2 _ _ _ | refine' Ev.and2 _ _ _ | refine' Ev.ifExp _ _ _ | refine' Ev.list _ _ _ | refine' Ev.tuple _ _ _ | refine' Ev.slice _ _ _ _ _ _ _ | refine' Ev.item _ _ _ _ _ | refine' Ev.call _ _ _ _ _ _ | refine' Ev.meth _ _ _ _ _ _ _ _ _ _ _ _) <;> k_extra "z")
 | ((first | exact Ev.const_int _ _ _ | exact Ev.const_str _ _ _ | exact Ev.const_none _ _ | refine' Ev.name _ _ _) <;> k_extra "nm")
 | ((fail_if_success (with_reducible show Ev _ _ _ _ _ _ (PS _ _ _ _))); (fail_if_success (with_reducible show Ev _ _ _ _ _ _ (PR _ _ _ _))); (show Ev _ _ _ _ _ _ (PS _ _ _ _)); k_extra "z"))
 (k_with "z" => first
 | k_extra "no"
 | (with_reducible show ∀ s' : Shared,St _ _ _ _ _ _ _ _ _ _ _ _ s' → _)
 | exact Rm.le (by with_reducible assumption) (Nat.zero_le _)
 | ((fail_if_success (with_reducible show Ev _ _ _ _ _ _ _)); k_extra "z1")
 | k_extra "ev")
 (k_with "z1" => first
 | exact ZU.nil | exact xJ.nil | exact zd.none | exact Tv.or_nil | exact Tv.and_nil
 | ((with_reducible first | refine' ZU.cons _ _ _ | refine' xJ.cons _ _ _ | refine' zd.some _ | refine' Tv.cmp _ _ _ _ _ | refine' Tv.not _ | refine' Tv.or_cons _ _ | refine' Tv.and_cons _ _) <;> k_extra "z")
 | exact yq.none
 | ((with_reducible first | refine' yq.bool _ | refine' yq.int _ | refine' yq.list _ _ | refine' yq.str _ _) <;> k_extra "z")
 | ((with_reducible refine' Tv.plain _ _ _) <;> k_extra "z")
 | ((with_reducible refine' zb.rng _) <;> k_extra "z")
 | ((with_reducible refine' zb.list _) <;> k_extra "z")
 | exact zb.same
 | ((with_reducible refine' zb.tup _) <;> k_extra "z")
 | exact zb.sameT
 | ((with_reducible refine' jK.list _ _) <;> k_extra "z")
 | ((with_reducible first | refine' yL.add _ _ | refine' yL.addB _ _ | refine' yL.addIB _ _ | refine' yL.sub _ _ | refine' yL.mod _ _ _ _ | refine' yL.fdiv _ _ _ _ | refine' yL.and _ _ | refine' yL.or _ _ | refine' yL.mulIB _ _ | refine' yL.mul _ _ _ | refine' yL.shl _ _ _ _ _ | refine' yL.shr _ _ _ | refine' yL.addS _ _ _ | refine' yL.addL _ _ _) <;> k_extra "z")
 | ((with_reducible first | refine' zN.inS _ _ | refine' zN.notInS _ _ | refine' zN.eqS _ _ | refine' zN.neS _ _ | refine' zN.le _ _ | refine' zN.ge _ _ | refine' zN.lt _ _ | refine' zN.gt _ _ | refine' zN.eqI _ _ | refine' zN.neI _ _) <;> k_extra "z")
 | ((with_reducible refine' zN.is _) <;> k_extra "z")
 | ((with_reducible refine' zN.isNot _) <;> k_extra "z")
 | ((with_reducible refine' zN.eq _ _) <;> k_extra "z")
 | ((with_reducible refine' zN.ne _ _) <;> k_extra "z")
 | ((with_reducible refine' zN.inL _ _) <;> k_extra "z")
 | ((with_reducible refine' zN.notInL _ _) <;> k_extra "z")
 | ((with_reducible first | refine' zH.startswith _ _ | refine' zH.endswith _ _ | refine' zH.find4 _ _ _ _ | refine' zH.count _ _ | refine' zH.join _ _ _ | refine' zH.upper _ _ | refine' zH.lower _ _ | refine' zH.swapcase _ _ | refine' zH.range1 _ | refine' zH.range2 _ _ | refine' zH.range3 _ _ _ _ _ | refine' zH.lenL _ _ | refine' zH.lenS _ _ | refine' zH.sum _ _) <;> k_extra "z")
 | ((with_reducible first | refine' xI.append _ _ _ | refine' xI.clear _ _) <;> k_extra "z")
 | ((first | refine' YM.add _ _ | refine' YM.sub _ _ | refine' YM.xor _ _ | refine' YM.or _ _ | refine' YM.shl _ _ _ _ _) <;> k_extra "z")
 | exact Or.inl (fun _ e => by cases e) | exact zi.keepy (by with_reducible assumption) | exact Or.inr rfl | (refine' Or.inl _ <;> k_extra "z")
 | ((first | refine' zH.hex _ _ | refine' zH.join _ _ _ | refine' zH.upper _ _ | refine' zH.lower _ _ | refine' zH.range1 _ | refine' zH.range2 _ _ | refine' zH.lenL _ _ | refine' zH.lenS _ _ | refine' zH.count _ _) <;> k_extra "z")
 | exact XI.nil | ((refine' XI.cons (d:=.dat _) _ _ _) <;> k_extra "z") | ((refine' XI.cons (d:=.new _) _ _ _) <;> k_extra "z")
 | ((with_reducible show zAc _ _ _ _ _ _ _ _ _); intro _ _ _ _; k_extra "z")
 | k_extra "mem"
 | ((with_reducible show ∀ _ : _,_); intro _; k_extra "z")
 | k_extra "eq")
 (k_with "next" => (clear S; intro s' S))
 (k_with "set" => ((refine' yK _ _ _ _ _ <;> k_extra "z"); k_extra "next"))
 (k_with "if" => ((refine' vF _ _ _ <;> k_extra "z"); k_extra "next"))
 (k_with "assert" => ((refine' Ww _ _ _ _ <;> k_extra "z"); k_extra "next"))
 (k_with "aug" => ((refine' Vj _ _ _ _ _ _ <;> k_extra "z"); k_extra "next"))
 (k_with "mut0" => ((refine' vi (pre:=[]) _ _ _ _ _ _ _ _ _ _ _ _ _ _ _ <;> k_extra "z"); k_extra "next"))
 (k_with "fs" => (intro _; rfl))
 (k_with "sub" => first
 | with_reducible exact all_nil
 | (refine' all_cons _ _; k_extra "mem"; k_extra "sub"))
 (k_with "flat" => simp only [List.map_cons,List.map_nil,List.nil_append,List.cons_append,List.zip_cons_cons,List.zip_nil_right] at S)
 trivial
theorem Xf {α : Type} {a : Option α} {o : α} {p : Prop} (h : a = none) (e : a = some o) : p:=by rw [h] at e; cases e
section
variable {prog : Program} {w : World} {B : Heap} {mg mb : Str → Option Value}
noncomputable def zg {τ : Type} (go : τ → D → τ × Bool) (xs : List D) : Nat → Nat → Nat → τ → τ × Nat
 | 0,lo,_,c => (c,lo)
 | n + 1,lo,hi,c => if lo < hi then
   (if (go c (xs.getD ((lo + hi) / 2) .none)).2 then zg go xs n ((lo + hi) / 2 + 1) hi (go c (xs.getD ((lo + hi) / 2) .none)).1 else zg go xs n lo ((lo + hi) / 2) (go c (xs.getD ((lo + hi) / 2) .none)).1)
  else (c,lo)
theorem yQ {τ : Type} (go : τ → D → τ × Bool) (xs : List D) : ∀ (n m lo hi : Nat) (c : τ),hi - lo ≤ n → hi - lo ≤ m → zg go xs n lo hi c = zg go xs m lo hi c
 | 0,0,_,_,_,_,_ => rfl
 | 0,m + 1,lo,hi,c,h,_ => by simp only [zg]; rw [if_neg (Nat.not_lt.mpr (Nat.sub_eq_zero_iff_le.mp (Nat.le_zero.mp h)))]
 | n + 1,0,lo,hi,c,_,h => by simp only [zg]; rw [if_neg (Nat.not_lt.mpr (Nat.sub_eq_zero_iff_le.mp (Nat.le_zero.mp h)))]
 | n + 1,m + 1,lo,hi,c,h,h' => by
  simp only [zg]
  split
  · rename_i hl
    split
    · exact yQ go xs n m _ _ _ (kO hl h) (kO hl h')
    · exact yQ go xs n m _ _ _ (kt hl h) (kt hl h')
  · rfl
noncomputable abbrev xw:=(zZ kz).names
noncomputable abbrev wS:=(zZ YD).names
noncomputable def yv (ra : RV) (μa : List (Addr × D)) (xs : List D) : Prop:=(ra = .dat (.list xs) ∧ μa = []) ∨ ∃ l,ra = .adr l ∧ μa = [(l,.list xs)]
theorem wR {A : Around} {h : Heap} {M : Addr → Prop} {names : zJ} {env : Env} {ρ : List (Str × RV)} {μ : List (Addr × D)} (S : En prog w B names env h M ρ μ) {ra : RV} {μa : List (Addr × D)} {xs : List D} (hp : yv ra μa xs) {x : Str} {p : Pos} (hx : (x,ra) ∈ ρ) (hm : ∀ q ∈ μa,q ∈ μ) (hdb : (x == ("__debug__" : Str)) = false) :
   Ev prog w A h (.Name x p) env (PR prog w M (.list xs)):=by
 rcases hp with ⟨rfl,rfl⟩ | ⟨l,rfl,rfl⟩
 · exact Ev.rd (Ev.name S hx hdb)
 · exact Ev.nameM S hx (hm _ (.head _)) hdb
theorem QT (G : Gl B mg mb) {k : Nat} {A : Around} {s s₁ : Shared} {Own₀ M₀ Own M M₁ : Addr → Prop} {env : Env} {τ : Type} {P : τ → Prop} {J : Nat → τ → Prop} {μk : τ → List (Addr × D)} {step : τ → D → τ × D} {f : Addr} {fo : Obj} {fd : FuncData} {xs : List D} {xd : D} {ra : RV} {μa : List (Addr × D)} (lt : D → Bool) (lo hi : Nat) (c₀ : τ)
  (R : Rm A k) (hfd : fo.data = .func fd) (K : ya prog w k B M₁ f xs P μk step) (hJP : ∀ n c,J n c → P c) (hP : J (hi - lo) c₀) (hPstep : ∀ n c d,J (n + 1) c → d ∈ xs → J n (step c d).1) (hJm : ∀ n m c,m ≤ n → J n c → J m c) (hM : ∀ a o,M a → B.get? a = some o → M₁ a) (hM₁ : ∀ a,M₁ a → M a) (hO : ∀ c a x,(a,x) ∈ μk c → Own a) (hfst : ∀ c c',(μk c).map (·.1) = (μk c').map (·.1))
  (hp : yv ra μa xs) (hsz : xs.length ≤ 100000) (hhi : hi ≤ xs.length) (hcmp : ∀ c d,P c → d ∈ xs → zN prog w .Lt (step c d).2 xd (lt (step c d).2))
  (S : St prog w B s Own₀ M₀ xw env Own M [(Str.ofString "lo",.dat (.int lo)),(Str.ofString "hi",.dat (.int hi)),(Str.ofString "a",ra),(Str.ofString "x",.dat xd),(Str.ofString "key",.dat (.ob f fo))] (μa ++ μk c₀) s₁)
  {Q : Flow → Shared → Prop}
  (hQ : ∀ v s' ρ',St prog w B s Own₀ M₀ xw env Own M ρ' (μa ++ μk (zg (fun c d => ((step c d).1,lt (step c d).2)) xs (hi - lo) lo hi c₀).1) s' → P (zg (fun c d => ((step c d).1,lt (step c d).2)) xs (hi - lo) lo hi c₀).1 → Rp prog w s'.heap M v (.int (zg (fun c d => ((step c d).1,lt (step c d).2)) xs (hi - lo) lo hi c₀).2) → Q (.ret v) s') :
  wpAny (model prog w) A (execs ((zC kz).drop 2) env) Q (fun _ _ => False) s₁:=by
 have R0 : Rm A 0:=R.le (Nat.zero_le _)
 generalize hgo : (fun c d => ((step c d).1,lt (step c d).2)) = go at hQ
 k_extra "if"
 show wpAny _ _ (execs (if false = true then _ else _) env) _ _ _
 simp only [Bool.false_eq_true,if_false]
 have hgof : ∀ c d,go c d = ((step c d).1,lt (step c d).2):=fun c d => by rw [← hgo]
 refine' jF (σ:=Nat × Nat × τ) S R0 (fun c => [(Str.ofString "lo",.dat (.int c.1)),(Str.ofString "hi",.dat (.int c.2.1)),(Str.ofString "a",ra),(Str.ofString "x",.dat xd),(Str.ofString "key",.dat (.ob f fo))]) (fun c => μa ++ μk c.2.2)
  (fun c => c.2.1 ≤ xs.length ∧ J (c.2.1 - c.1) c.2.2 ∧ zg go xs (hi - lo) lo hi c₀ = zg go xs (c.2.1 - c.1) c.1 c.2.1 c.2.2) (fun c => c.2.1 - c.1) (fun c => decide ((c.1 : Int) < c.2.1)) (fun _ _ _ => False) (lo,hi,c₀) ?whp ?whr ?whm ?wht ?whturn ?whdone ?whexit
 case whp => exact ⟨hhi,hP,rfl⟩
 case whr => exact fun x r hm => hm
 case whm => rfl
 case wht =>
  intro c s₁ _ S
  k_extra "z"
 case whexit => exact fun f c s' h _ => h.elim
 case whdone =>
  clear S
  intro c s' hP ht S
  obtain ⟨h1,h2,h3⟩:=hP
  have e : zg go xs (c.2.1 - c.1) c.1 c.2.1 c.2.2 = (c.2.2,c.1):=by
    have : c.2.1 - c.1 = 0:=wE ht
    rw [this]; rfl
  rw [h3,e] at hQ
  refine zD ?_
  refine' xF (d:=.int c.1) S ?ra ?rb
  case ra => k_extra "z"
  case rb => exact fun v s' S' r => hQ v s' _ S' (hJP _ _ h2) r
 case whturn =>
  clear S hQ
  intro c s₁ hP ht S
  obtain ⟨lo',hi',c⟩:=c
  obtain ⟨h1,h2,h3⟩:=hP
  dsimp only at h1 h2 h3 ht S ⊢
  have hlt : lo' < hi':=vy ht
  k_extra "set"
  rw [q7] at S
  generalize hm : (lo' + hi') / 2 = mid at S
  have mf:=JM hlt hm
  have hml : mid < xs.length:=Nat.lt_of_lt_of_le mf.1 h1
  obtain ⟨d,hd⟩ : ∃ d,xs[mid]? = some d:=⟨xs[mid],List.getElem?_eq_getElem hml⟩
  have hdx : d ∈ xs:=List.mem_of_getElem? hd
  have hgd : xs.getD mid .none = d:=by rw [List.getD_eq_getElem?_getD,hd]; rfl
  have hstep : zg go xs (hi' - lo') lo' hi' c = if lt (step c d).2 then zg go xs (hi' - (mid + 1)) (mid + 1) hi' (step c d).1 else zg go xs (mid - lo') lo' mid (step c d).1:=by
    rw [xU hlt]
    simp only [zg]
    rw [if_pos hlt,hm,hgd,hgof]
    split
    · exact yQ go xs _ _ _ _ _ (by first | exact mf.2.1 | exact mf.2.2.1) (Nat.le_refl _)
    · exact yQ go xs _ _ _ _ _ (by first | exact mf.2.1 | exact mf.2.2.1) (Nat.le_refl _)
  refine V0 (b:=lt (step c d).2) (μ':=μa ++ μk (step c d).1) S (fun Q' hQ' => ?_) ?_
  · refine wpAny_isTrue_Compare1 (V6 S R (x:=Str.ofString "key") ?kx ?kd hfd (fun _ => rfl) ?ke hdx K (hJP _ _ h2) hM hM₁ (hO c) hfst fun v s' S' rv _ => ?kq) rfl
    case kx => k_extra "mem"
    case kd => k_extra "kd"
    case ke =>
      refine' Ev.item (d:=d) (i:=mid) (xs:=xs) ?iv ?ii (Int.natCast_nonneg _) (vq (Nat.lt_of_lt_of_le hml (Nat.le_trans hsz (by decide)))) ?id
      case iv => exact wR S.e hp (by k_extra "mem") (fun q hq => List.mem_append_left _ hq) (by k_extra "kd")
      case ii => k_extra "z"
      case id => rw [show (mid : Int).toNat = mid from Int.toNat_natCast mid]; exact hd
    case kq =>
      have hx : ∀ q,Ev prog w A s'.heap (.Name (Str.ofString "x") q) env (PR prog w M xd):=fun q => Ev.rd (Ev.name S'.e (by k_extra "mem") (by k_extra "kd"))
      refine hx _ s' _ _ (zR.refl _) fun u s₂ k₂ ru => ?_
      exact hcmp c d (hJP _ _ h2) hdx A M s₂ _ _ v u R0.hu (.inl (rv.ext (ke k₂))) ru fun s₃ k₃ => wpAny_truthy_bool (hQ' s₃ (S'.step (zA k₂ k₃)))
  clear S
  intro s' S
  have hPc : J (hi' - lo' - 1) (step c d).1:=hPstep _ c d (by rw [← xU hlt]; exact h2) hdx
  cases hb : lt (step c d).2
  · rw [hb] at hstep
    simp only [Bool.false_eq_true,if_false] at hstep ⊢
    k_extra "set"
    refine zD (zD ?_)
    refine ⟨(lo',mid,(step c d).1),_,_,S.sub ?_,⟨Nat.le_of_lt hml,hJm _ _ _ mf.2.2.1 hPc,by rw [h3,hstep]⟩,mf.2.2.2.2⟩
    k_extra "sub"
  · rw [hb] at hstep
    simp only [if_true] at hstep ⊢
    k_extra "set"
    refine zD (zD ?_)
    refine ⟨(mid + 1,hi',(step c d).1),_,_,S.sub ?_,⟨h1,hJm _ _ _ mf.2.1 hPc,by rw [h3,hstep]⟩,mf.2.2.2.1⟩
    dsimp only
    rw [show ((mid + 1 : Nat) : Int) = (mid : Int) + 1 from rfl]
    k_extra "sub"
theorem QA (G : Gl B mg mb) {k : Nat} {A : Around} {s s₁ : Shared} {Own₀ M₀ Own M M₁ : Addr → Prop} {env : Env} {τ : Type} {P : τ → Prop} {J : Nat → τ → Prop} {μk : τ → List (Addr × D)} {step : τ → D → τ × D} {f : Addr} {fo : Obj} {fd : FuncData} {xs : List D} {xd : D} {ra : RV} {μa : List (Addr × D)} (lt : D → Bool) (lo hi : Nat) (c₀ : τ)
  (R : Rm A k) (hfd : fo.data = .func fd) (K : ya prog w k B M₁ f xs P μk step) (hJP : ∀ n c,J n c → P c) (hP : J (hi - lo) c₀) (hPstep : ∀ n c d,J (n + 1) c → d ∈ xs → J n (step c d).1) (hJm : ∀ n m c,m ≤ n → J n c → J m c) (hM : ∀ a o,M a → B.get? a = some o → M₁ a) (hM₁ : ∀ a,M₁ a → M a) (hO : ∀ c a x,(a,x) ∈ μk c → Own a) (hfst : ∀ c c',(μk c).map (·.1) = (μk c').map (·.1))
  (hp : yv ra μa xs) (hsz : xs.length ≤ 100000) (hhi : hi ≤ xs.length) (hcmp : ∀ c d,P c → d ∈ xs → zN prog w .Lt xd (step c d).2 (lt (step c d).2))
  (S : St prog w B s Own₀ M₀ wS env Own M [(Str.ofString "lo",.dat (.int lo)),(Str.ofString "hi",.dat (.int hi)),(Str.ofString "a",ra),(Str.ofString "x",.dat xd),(Str.ofString "key",.dat (.ob f fo))] (μa ++ μk c₀) s₁)
  {Q : Flow → Shared → Prop}
  (hQ : ∀ v s' ρ',St prog w B s Own₀ M₀ wS env Own M ρ' (μa ++ μk (zg (fun c d => ((step c d).1,!lt (step c d).2)) xs (hi - lo) lo hi c₀).1) s' → P (zg (fun c d => ((step c d).1,!lt (step c d).2)) xs (hi - lo) lo hi c₀).1 → Rp prog w s'.heap M v (.int (zg (fun c d => ((step c d).1,!lt (step c d).2)) xs (hi - lo) lo hi c₀).2) → Q (.ret v) s') :
  wpAny (model prog w) A (execs ((zC YD).drop 2) env) Q (fun _ _ => False) s₁:=by
 have R0 : Rm A 0:=R.le (Nat.zero_le _)
 generalize hgo : (fun c d => ((step c d).1,!lt (step c d).2)) = go at hQ
 k_extra "if"
 show wpAny _ _ (execs (if false = true then _ else _) env) _ _ _
 simp only [Bool.false_eq_true,if_false]
 have hgof : ∀ c d,go c d = ((step c d).1,!lt (step c d).2):=fun c d => by rw [← hgo]
 refine' jF (σ:=Nat × Nat × τ) S R0 (fun c => [(Str.ofString "lo",.dat (.int c.1)),(Str.ofString "hi",.dat (.int c.2.1)),(Str.ofString "a",ra),(Str.ofString "x",.dat xd),(Str.ofString "key",.dat (.ob f fo))]) (fun c => μa ++ μk c.2.2)
  (fun c => c.2.1 ≤ xs.length ∧ J (c.2.1 - c.1) c.2.2 ∧ zg go xs (hi - lo) lo hi c₀ = zg go xs (c.2.1 - c.1) c.1 c.2.1 c.2.2) (fun c => c.2.1 - c.1) (fun c => decide ((c.1 : Int) < c.2.1)) (fun _ _ _ => False) (lo,hi,c₀) ?whp ?whr ?whm ?wht ?whturn ?whdone ?whexit
 case whp => exact ⟨hhi,hP,rfl⟩
 case whr => exact fun x r hm => hm
 case whm => rfl
 case wht =>
  intro c s₁ _ S
  k_extra "z"
 case whexit => exact fun f c s' h _ => h.elim
 case whdone =>
  clear S
  intro c s' hP ht S
  obtain ⟨h1,h2,h3⟩:=hP
  have e : zg go xs (c.2.1 - c.1) c.1 c.2.1 c.2.2 = (c.2.2,c.1):=by
    have : c.2.1 - c.1 = 0:=wE ht
    rw [this]; rfl
  rw [h3,e] at hQ
  refine zD ?_
  refine' xF (d:=.int c.1) S ?ra ?rb
  case ra => k_extra "z"
  case rb => exact fun v s' S' r => hQ v s' _ S' (hJP _ _ h2) r
 case whturn =>
  clear S hQ
  intro c s₁ hP ht S
  obtain ⟨lo',hi',c⟩:=c
  obtain ⟨h1,h2,h3⟩:=hP
  dsimp only at h1 h2 h3 ht S ⊢
  have hlt : lo' < hi':=vy ht
  k_extra "set"
  rw [q7] at S
  generalize hm : (lo' + hi') / 2 = mid at S
  have mf:=JM hlt hm
  have hml : mid < xs.length:=Nat.lt_of_lt_of_le mf.1 h1
  obtain ⟨d,hd⟩ : ∃ d,xs[mid]? = some d:=⟨xs[mid],List.getElem?_eq_getElem hml⟩
  have hdx : d ∈ xs:=List.mem_of_getElem? hd
  have hgd : xs.getD mid .none = d:=by rw [List.getD_eq_getElem?_getD,hd]; rfl
  have hstep : zg go xs (hi' - lo') lo' hi' c = if !lt (step c d).2 then zg go xs (hi' - (mid + 1)) (mid + 1) hi' (step c d).1 else zg go xs (mid - lo') lo' mid (step c d).1:=by
    rw [xU hlt]
    simp only [zg]
    rw [if_pos hlt,hm,hgd,hgof]
    split
    · exact yQ go xs _ _ _ _ _ (by first | exact mf.2.1 | exact mf.2.2.1) (Nat.le_refl _)
    · exact yQ go xs _ _ _ _ _ (by first | exact mf.2.1 | exact mf.2.2.1) (Nat.le_refl _)
  refine V0 (b:=lt (step c d).2) (μ':=μa ++ μk (step c d).1) S (fun Q' hQ' => ?_) ?_
  · have hx : ∀ q,Ev prog w A s'.heap (.Name (Str.ofString "x") q) env (PS prog w M xd):=fun q => Ev.name S.e (by k_extra "mem") (by k_extra "kd")
    refine wpAny_isTrue_Compare1 (hx _ s' _ _ (zR.refl _) fun u s₂ k₂ ru => ?_) rfl
    have S₂:=S.step k₂
    have hE₂:=S₂.e
    refine V6 S₂ R (x:=Str.ofString "key") ?kx ?kd hfd (fun _ => rfl) ?ke hdx K (hJP _ _ h2) hM hM₁ (hO c) hfst fun v s₃ S₃ rv hkp => ?kq
    case kx => k_extra "mem"
    case kd => k_extra "kd"
    case ke =>
      refine' Ev.item (d:=d) (i:=mid) (xs:=xs) ?iv ?ii (Int.natCast_nonneg _) (vq (Nat.lt_of_lt_of_le hml (Nat.le_trans hsz (by decide)))) ?id
      case iv => exact wR hE₂ hp (by k_extra "mem") (fun q hq => List.mem_append_left _ hq) (by k_extra "kd")
      case ii => k_extra "z"
      case id => rw [show (mid : Int).toNat = mid from Int.toNat_natCast mid]; exact hd
    case kq =>
      have ru' : Rp prog w s₃.heap M u xd:=Rp.to hkp ru
      exact hcmp c d (hJP _ _ h2) hdx A M s₃ _ _ u v R0.hu (.inl ru') (.inl rv) fun s₄ k₄ => wpAny_truthy_bool (hQ' s₄ (S₃.step k₄))
  clear S
  intro s' S
  have hPc : J (hi' - lo' - 1) (step c d).1:=hPstep _ c d (by rw [← xU hlt]; exact h2) hdx
  cases hb : lt (step c d).2
  rotate_left
  · rw [hb] at hstep
    simp only [Bool.not_true,Bool.false_eq_true,if_false,if_true] at hstep ⊢
    k_extra "set"
    refine zD (zD ?_)
    refine ⟨(lo',mid,(step c d).1),_,_,S.sub ?_,⟨Nat.le_of_lt hml,hJm _ _ _ mf.2.2.1 hPc,by rw [h3,hstep]⟩,mf.2.2.2.2⟩
    k_extra "sub"
  · rw [hb] at hstep
    simp only [Bool.not_false,if_true,Bool.false_eq_true,if_false] at hstep ⊢
    k_extra "set"
    refine zD (zD ?_)
    refine ⟨(mid + 1,hi',(step c d).1),_,_,S.sub ?_,⟨h1,hJm _ _ _ mf.2.1 hPc,by rw [h3,hstep]⟩,mf.2.2.2.1⟩
    dsimp only
    rw [show ((mid + 1 : Nat) : Int) = (mid : Int) + 1 from rfl]
    k_extra "sub"
theorem Wi (G : Gl B mg mb) {A : Around} {s s₁ : Shared} {Own₀ M₀ Own M : Addr → Prop} {env : Env} {xs : List D} {xd : D} {ra : RV} {μa : List (Addr × D)} (lt : D → Bool) (lo hi : Nat)
  (R : Rm A 0) (hp : yv ra μa xs) (hsz : xs.length ≤ 100000) (hhi : hi ≤ xs.length) (hcmp : ∀ d,d ∈ xs → zN prog w .Lt d xd (lt d))
  (S : St prog w B s Own₀ M₀ xw env Own M [(Str.ofString "lo",.dat (.int lo)),(Str.ofString "hi",.dat (.int hi)),(Str.ofString "a",ra),(Str.ofString "x",.dat xd),(Str.ofString "key",.dat .none)] μa s₁)
  {Q : Flow → Shared → Prop}
  (hQ : ∀ v s' ρ',St prog w B s Own₀ M₀ xw env Own M ρ' μa s' → Rp prog w s'.heap M v (.int (zg (fun (c : Unit) d => (c,(lt d))) xs (hi - lo) lo hi ()).2) → Q (.ret v) s') :
  wpAny (model prog w) A (execs ((zC kz).drop 2) env) Q (fun _ _ => False) s₁:=by
 have R0 : Rm A 0:=R
 generalize hgo : (fun (c : Unit) d => (c,(lt d))) = go at hQ
 k_extra "if"
 show wpAny _ _ (execs (if true = true then _ else _) env) _ _ _
 simp only [if_true]
 have hgof : ∀ c d,go c d = (c,(lt d)):=fun c d => by rw [← hgo]
 refine' jF (σ:=Nat × Nat) S R0 (fun c => [(Str.ofString "lo",.dat (.int c.1)),(Str.ofString "hi",.dat (.int c.2)),(Str.ofString "a",ra),(Str.ofString "x",.dat xd)]) (fun c => μa)
  (fun c => c.2 ≤ xs.length ∧ zg go xs (hi - lo) lo hi () = zg go xs (c.2 - c.1) c.1 c.2 ()) (fun c => c.2 - c.1) (fun c => decide ((c.1 : Int) < c.2)) (fun _ _ _ => False) (lo,hi) ?whp ?whr ?whm ?wht ?whturn ?whdone ?whexit
 case whp => exact ⟨hhi,rfl⟩
 case whr => k_extra "sub"
 case whm => rfl
 case wht =>
  intro c s₁ _ S
  k_extra "z"
 case whexit => exact fun f c s' h _ => h.elim
 case whdone =>
  clear S
  intro c s' hP ht S
  obtain ⟨h1,h3⟩:=hP
  have e : zg go xs (c.2 - c.1) c.1 c.2 () = ((),c.1):=by
    have : c.2 - c.1 = 0:=wE ht
    rw [this]; rfl
  rw [h3,e] at hQ
  refine zD ?_
  refine' xF (d:=.int c.1) S ?ra ?rb
  case ra => k_extra "z"
  case rb => exact fun v s' S' r => hQ v s' _ S' r
 case whturn =>
  clear S hQ
  intro c s₁ hP ht S
  obtain ⟨lo',hi'⟩:=c
  obtain ⟨h1,h3⟩:=hP
  dsimp only at h1 h3 ht S ⊢
  have hlt : lo' < hi':=vy ht
  k_extra "set"
  rw [q7] at S
  generalize hm : (lo' + hi') / 2 = mid at S
  have mf:=JM hlt hm
  have hml : mid < xs.length:=Nat.lt_of_lt_of_le mf.1 h1
  obtain ⟨d,hd⟩ : ∃ d,xs[mid]? = some d:=⟨xs[mid],List.getElem?_eq_getElem hml⟩
  have hdx : d ∈ xs:=List.mem_of_getElem? hd
  have hgd : xs.getD mid .none = d:=by rw [List.getD_eq_getElem?_getD,hd]; rfl
  have hstep : zg go xs (hi' - lo') lo' hi' () = if (lt d) then zg go xs (hi' - (mid + 1)) (mid + 1) hi' () else zg go xs (mid - lo') lo' mid ():=by
    rw [xU hlt]
    simp only [zg]
    rw [if_pos hlt,hm,hgd,hgof]
    split
    · exact yQ go xs _ _ _ _ _ (by first | exact mf.2.1 | exact mf.2.2.1) (Nat.le_refl _)
    · exact yQ go xs _ _ _ _ _ (by first | exact mf.2.1 | exact mf.2.2.1) (Nat.le_refl _)
  have hit : ∀ q1 q2 q3,Ev prog w A s'.heap (.Subscript (.Name (Str.ofString "a") q1) (.Name (Str.ofString "mid") q2) q3) env (PR prog w M d):=fun q1 q2 q3 => by
    refine' Ev.rd (Ev.item (d:=d) (i:=mid) (xs:=xs) ?iv ?ii (Int.natCast_nonneg _) (vq (Nat.lt_of_lt_of_le hml (Nat.le_trans hsz (by decide)))) ?id)
    case iv => exact wR S.e hp (by k_extra "mem") (fun q hq => hq) (by k_extra "kd")
    case ii => k_extra "z"
    case id => rw [show (mid : Int).toNat = mid from Int.toNat_natCast mid]; exact hd
  have hx : ∀ q,Ev prog w A s'.heap (.Name (Str.ofString "x") q) env (PR prog w M xd):=fun q => Ev.rd (Ev.name S.e (by k_extra "mem") (by k_extra "kd"))
  refine vF (b:=lt d) S (Tv.cmp R (hit _ _ _) (hx _) (hcmp d hdx) rfl) ?_
  k_extra "next"
  cases hb : lt d
  skip
  · rw [hb] at hstep
    simp only [Bool.not_true,Bool.not_false,Bool.false_eq_true,if_false,if_true] at hstep ⊢
    k_extra "set"
    refine zD (zD ?_)
    refine ⟨(lo',mid),_,_,S.sub ?_,⟨Nat.le_of_lt hml,by rw [h3,hstep]⟩,mf.2.2.2.2⟩
    k_extra "sub"
  · rw [hb] at hstep
    simp only [Bool.not_true,Bool.not_false,Bool.false_eq_true,if_false,if_true] at hstep ⊢
    k_extra "set"
    refine zD (zD ?_)
    refine ⟨(mid + 1,hi'),_,_,S.sub ?_,⟨h1,by rw [h3,hstep]⟩,mf.2.2.2.1⟩
    dsimp only
    rw [show ((mid + 1 : Nat) : Int) = (mid : Int) + 1 from rfl]
    k_extra "sub"
theorem VW (G : Gl B mg mb) {A : Around} {s s₁ : Shared} {Own₀ M₀ Own M : Addr → Prop} {env : Env} {xs : List D} {xd : D} {ra : RV} {μa : List (Addr × D)} (lt : D → Bool) (lo hi : Nat)
  (R : Rm A 0) (hp : yv ra μa xs) (hsz : xs.length ≤ 100000) (hhi : hi ≤ xs.length) (hcmp : ∀ d,d ∈ xs → zN prog w .Lt xd d (lt d))
  (S : St prog w B s Own₀ M₀ wS env Own M [(Str.ofString "lo",.dat (.int lo)),(Str.ofString "hi",.dat (.int hi)),(Str.ofString "a",ra),(Str.ofString "x",.dat xd),(Str.ofString "key",.dat .none)] μa s₁)
  {Q : Flow → Shared → Prop}
  (hQ : ∀ v s' ρ',St prog w B s Own₀ M₀ wS env Own M ρ' μa s' → Rp prog w s'.heap M v (.int (zg (fun (c : Unit) d => (c,!(lt d))) xs (hi - lo) lo hi ()).2) → Q (.ret v) s') :
  wpAny (model prog w) A (execs ((zC YD).drop 2) env) Q (fun _ _ => False) s₁:=by
 have R0 : Rm A 0:=R
 generalize hgo : (fun (c : Unit) d => (c,!(lt d))) = go at hQ
 k_extra "if"
 show wpAny _ _ (execs (if true = true then _ else _) env) _ _ _
 simp only [if_true]
 have hgof : ∀ c d,go c d = (c,!(lt d)):=fun c d => by rw [← hgo]
 refine' jF (σ:=Nat × Nat) S R0 (fun c => [(Str.ofString "lo",.dat (.int c.1)),(Str.ofString "hi",.dat (.int c.2)),(Str.ofString "a",ra),(Str.ofString "x",.dat xd)]) (fun c => μa)
  (fun c => c.2 ≤ xs.length ∧ zg go xs (hi - lo) lo hi () = zg go xs (c.2 - c.1) c.1 c.2 ()) (fun c => c.2 - c.1) (fun c => decide ((c.1 : Int) < c.2)) (fun _ _ _ => False) (lo,hi) ?whp ?whr ?whm ?wht ?whturn ?whdone ?whexit
 case whp => exact ⟨hhi,rfl⟩
 case whr => k_extra "sub"
 case whm => rfl
 case wht =>
  intro c s₁ _ S
  k_extra "z"
 case whexit => exact fun f c s' h _ => h.elim
 case whdone =>
  clear S
  intro c s' hP ht S
  obtain ⟨h1,h3⟩:=hP
  have e : zg go xs (c.2 - c.1) c.1 c.2 () = ((),c.1):=by
    have : c.2 - c.1 = 0:=wE ht
    rw [this]; rfl
  rw [h3,e] at hQ
  refine zD ?_
  refine' xF (d:=.int c.1) S ?ra ?rb
  case ra => k_extra "z"
  case rb => exact fun v s' S' r => hQ v s' _ S' r
 case whturn =>
  clear S hQ
  intro c s₁ hP ht S
  obtain ⟨lo',hi'⟩:=c
  obtain ⟨h1,h3⟩:=hP
  dsimp only at h1 h3 ht S ⊢
  have hlt : lo' < hi':=vy ht
  k_extra "set"
  rw [q7] at S
  generalize hm : (lo' + hi') / 2 = mid at S
  have mf:=JM hlt hm
  have hml : mid < xs.length:=Nat.lt_of_lt_of_le mf.1 h1
  obtain ⟨d,hd⟩ : ∃ d,xs[mid]? = some d:=⟨xs[mid],List.getElem?_eq_getElem hml⟩
  have hdx : d ∈ xs:=List.mem_of_getElem? hd
  have hgd : xs.getD mid .none = d:=by rw [List.getD_eq_getElem?_getD,hd]; rfl
  have hstep : zg go xs (hi' - lo') lo' hi' () = if !(lt d) then zg go xs (hi' - (mid + 1)) (mid + 1) hi' () else zg go xs (mid - lo') lo' mid ():=by
    rw [xU hlt]
    simp only [zg]
    rw [if_pos hlt,hm,hgd,hgof]
    split
    · exact yQ go xs _ _ _ _ _ (by first | exact mf.2.1 | exact mf.2.2.1) (Nat.le_refl _)
    · exact yQ go xs _ _ _ _ _ (by first | exact mf.2.1 | exact mf.2.2.1) (Nat.le_refl _)
  have hit : ∀ q1 q2 q3,Ev prog w A s'.heap (.Subscript (.Name (Str.ofString "a") q1) (.Name (Str.ofString "mid") q2) q3) env (PR prog w M d):=fun q1 q2 q3 => by
    refine' Ev.rd (Ev.item (d:=d) (i:=mid) (xs:=xs) ?iv ?ii (Int.natCast_nonneg _) (vq (Nat.lt_of_lt_of_le hml (Nat.le_trans hsz (by decide)))) ?id)
    case iv => exact wR S.e hp (by k_extra "mem") (fun q hq => hq) (by k_extra "kd")
    case ii => k_extra "z"
    case id => rw [show (mid : Int).toNat = mid from Int.toNat_natCast mid]; exact hd
  have hx : ∀ q,Ev prog w A s'.heap (.Name (Str.ofString "x") q) env (PR prog w M xd):=fun q => Ev.rd (Ev.name S.e (by k_extra "mem") (by k_extra "kd"))
  refine vF (b:=lt d) S (Tv.cmp R (hx _) (hit _ _ _) (hcmp d hdx) rfl) ?_
  k_extra "next"
  cases hb : lt d
  rotate_left
  · rw [hb] at hstep
    simp only [Bool.not_true,Bool.not_false,Bool.false_eq_true,if_false,if_true] at hstep ⊢
    k_extra "set"
    refine zD (zD ?_)
    refine ⟨(lo',mid),_,_,S.sub ?_,⟨Nat.le_of_lt hml,by rw [h3,hstep]⟩,mf.2.2.2.2⟩
    k_extra "sub"
  · rw [hb] at hstep
    simp only [Bool.not_true,Bool.not_false,Bool.false_eq_true,if_false,if_true] at hstep ⊢
    k_extra "set"
    refine zD (zD ?_)
    refine ⟨(mid + 1,hi'),_,_,S.sub ?_,⟨h1,by rw [h3,hstep]⟩,mf.2.2.2.1⟩
    dsimp only
    rw [show ((mid + 1 : Nat) : Int) = (mid : Int) + 1 from rfl]
    k_extra "sub"
theorem Ze (G : Gl B mg mb) (hl : mg "len" = none ∧ mb "len" = some (.builtin "len")) {A : Around} {s s₁ : Shared} {Own₀ M₀ Own M : Addr → Prop} {env : Env} {xs : List D} {xd hd kd : D} {ra : RV} {μa μ : List (Addr × D)} (lo hi : Nat)
   (R : Rm A 0) (hp : yv ra μa xs) (hsz : xs.length ≤ 100000) (hhi : (hd = .none ∧ hi = xs.length) ∨ hd = .int hi)
   (S : St prog w B s Own₀ M₀ xw env Own M [(Str.ofString "a",ra),(Str.ofString "x",.dat xd),(Str.ofString "lo",.dat (.int lo)),(Str.ofString "hi",.dat hd),(Str.ofString "key",.dat kd)] (μa ++ μ) s₁)
   {Q : Flow → Shared → Prop} {E : Value → Shared → Prop}
   (hQ : ∀ s',St prog w B s Own₀ M₀ xw env Own M [(Str.ofString "lo",.dat (.int lo)),(Str.ofString "hi",.dat (.int hi)),(Str.ofString "a",ra),(Str.ofString "x",.dat xd),(Str.ofString "key",.dat kd)] (μa ++ μ) s' → wpAny (model prog w) A (execs ((zC kz).drop 2) env) Q E s') :
   wpAny (model prog w) A (execs (zC kz) env) Q E s₁:=by
 k_extra "if"
 rw [show decide ((lo : Int) < 0) = false from decide_eq_false (by k_extra "o")]
 refine zD ?_
 show wpAny _ _ _ _ _ _
 rcases hhi with ⟨rfl,rfl⟩ | rfl
 · k_extra "if"
   show wpAny _ _ (execs (if true = true then _ else _) env) _ _ _
   simp only [if_true]
   have hlen : ∀ q1 q2 q3,Ev prog w A s'.heap (.Call (.Name (Str.ofString "len") q1) [.Name (Str.ofString "a") q2] [] q3) env (PS prog w M (.int xs.length)):=by
    intro q1 q2 q3
    refine' Ev.call S.e R ?qf ?K ?qx (zH.lenL xs (by rw [sizeLine_eq]; k_extra "o"))
    case qf | K => k_extra "z"
    case qx => exact .cons (wR S.e hp (by k_extra "mem") (fun q hq => List.mem_append_left _ hq) (by k_extra "kd")) .nil (fun _ => rfl)
   refine' yK S (hlen _ _ _) ?qb ?qc ?qd
   case qb => k_extra "kd"
   case qc => rfl
   case qd =>
    intro s' S
    refine zD (hQ s' (S.sub ?_))
    k_extra "sub"
 · k_extra "if"
   show wpAny _ _ (execs (if false = true then _ else _) env) _ _ _
   simp only [Bool.false_eq_true,if_false]
   refine zD (hQ _ (S.sub ?_))
   k_extra "sub"
theorem ZK (G : Gl B mg mb) (hl : mg "len" = none ∧ mb "len" = some (.builtin "len")) {A : Around} {s s₁ : Shared} {Own₀ M₀ Own M : Addr → Prop} {env : Env} {xs : List D} {xd hd kd : D} {ra : RV} {μa μ : List (Addr × D)} (lo hi : Nat)
   (R : Rm A 0) (hp : yv ra μa xs) (hsz : xs.length ≤ 100000) (hhi : (hd = .none ∧ hi = xs.length) ∨ hd = .int hi)
   (S : St prog w B s Own₀ M₀ wS env Own M [(Str.ofString "a",ra),(Str.ofString "x",.dat xd),(Str.ofString "lo",.dat (.int lo)),(Str.ofString "hi",.dat hd),(Str.ofString "key",.dat kd)] (μa ++ μ) s₁)
   {Q : Flow → Shared → Prop} {E : Value → Shared → Prop}
   (hQ : ∀ s',St prog w B s Own₀ M₀ wS env Own M [(Str.ofString "lo",.dat (.int lo)),(Str.ofString "hi",.dat (.int hi)),(Str.ofString "a",ra),(Str.ofString "x",.dat xd),(Str.ofString "key",.dat kd)] (μa ++ μ) s' → wpAny (model prog w) A (execs ((zC YD).drop 2) env) Q E s') :
   wpAny (model prog w) A (execs (zC YD) env) Q E s₁:=by
 k_extra "if"
 rw [show decide ((lo : Int) < 0) = false from decide_eq_false (by k_extra "o")]
 refine zD ?_
 show wpAny _ _ _ _ _ _
 rcases hhi with ⟨rfl,rfl⟩ | rfl
 · k_extra "if"
   show wpAny _ _ (execs (if true = true then _ else _) env) _ _ _
   simp only [if_true]
   have hlen : ∀ q1 q2 q3,Ev prog w A s'.heap (.Call (.Name (Str.ofString "len") q1) [.Name (Str.ofString "a") q2] [] q3) env (PS prog w M (.int xs.length)):=by
    intro q1 q2 q3
    refine' Ev.call S.e R ?qf ?K ?qx (zH.lenL xs (by rw [sizeLine_eq]; k_extra "o"))
    case qf | K => k_extra "z"
    case qx => exact .cons (wR S.e hp (by k_extra "mem") (fun q hq => List.mem_append_left _ hq) (by k_extra "kd")) .nil (fun _ => rfl)
   refine' yK S (hlen _ _ _) ?qb ?qc ?qd
   case qb => k_extra "kd"
   case qc => rfl
   case qd =>
    intro s' S
    refine zD (hQ s' (S.sub ?_))
    k_extra "sub"
 · k_extra "if"
   show wpAny _ _ (execs (if false = true then _ else _) env) _ _ _
   simp only [Bool.false_eq_true,if_false]
   refine zD (hQ _ (S.sub ?_))
   k_extra "sub"
end
section
noncomputable def KH (P : Arguments) : Prop:=∃ p1 p2 p3 p4 p5 e1 e2 e3,P = { posonlyargs:=[],args:=[⟨"a",none,p1⟩,⟨"x",none,p2⟩,⟨"lo",none,p3⟩,⟨"hi",none,p4⟩],vararg:=none,kwonlyargs:=[⟨"key",none,p5⟩],kw_defaults:=[some e1],kwarg:=none,defaults:=[e2,e3] }
structure qQ (h : Heap) (fd : FuncData) (t0 : Tok) : Prop where
 par : KH fd.params
 dfl : ∃ T o n,fd.defaults = .ref T ∧ h.get? T = some o ∧ o.data = .seq #[.int 0 t0,.none] n
 kwd : ∃ d m,fd.kwdefaults = .ref d ∧ h.Ns d m ∧ m "key" = some .none
section
variable {s : Shared} {fd : FuncData} {t0 : Tok}
theorem vd {args : Args} {bs : List (Str × Value)} (H : qQ s.heap fd t0) (e : ∀ (fd : FuncData) T d,KH fd.params → fd.defaults = .ref T → fd.kwdefaults = .ref d → ∃ k,bindArgs fd args = (seqItems? (.ref T) >>= k) ∧ (k (some #[.int 0 t0,.none]) = pure bs ∨
   ∃ (k2 : Option Value → Sem (ForInStep (List (Str × Value) × List Str))) (k3 : ForInStep (List (Str × Value) × List Str) → Sem (List (Str × Value) × List Str)) (k4 : (List (Str × Value) × List Str) → Sem (List (Str × Value))),k (some #[.int 0 t0,.none]) = (((nsGet d "key" >>= k2) >>= k3) >>= k4) ∧ ((k2 (some .none) >>= k3) >>= k4) = pure bs)) : BindsTo s fd args bs:=by
 obtain ⟨T,o,n,hT,ho,hs⟩:=H.dfl
 obtain ⟨d,m,hd,hm,hk⟩:=H.kwd
 obtain ⟨k,e1,e2⟩:=e fd T d H.par hT hd
 intro M A E Q hQ
 rw [e1]
 refine wpAny_bind (wpAny_seqItems ho hs ?_)
 rcases e2 with e2 | ⟨k2,k3,k4,e2,e3⟩
 · rw [e2]
   exact wpAny_pure hQ
 · rw [e2,bind_assoc,bind_assoc]
   refine wpAny_bind (wpAny_nsGet hm ?_)
   rw [hk]
   rw [bind_assoc] at e3
   rw [e3]
   exact wpAny_pure hQ
theorem Zj (H : qQ s.heap fd t0) (a x : Value) : BindsTo s fd ⟨[a,x],[]⟩ [(("a" : Str),a),(("x" : Str),x),(("lo" : Str),.int 0 t0),(("hi" : Str),.none),(("key" : Str),.none)]:=by
 refine vd H fun fd T d hp hT hd => ?_
 obtain ⟨f1,f2,f3,f4,f5,f6,f7,f8,f9,f10,f11,f12,f13,f14,f15⟩:=fd
 obtain ⟨p1,p2,p3,p4,p5,g1,g2,g3,hp⟩:=hp
 dsimp only at hp hT hd
 subst hp hT hd
 exact ⟨_,rfl,.inr ⟨_,_,_,rfl,rfl⟩⟩
theorem ZY (H : qQ s.heap fd t0) (a x key : Value) : BindsTo s fd ⟨[a,x],[(("key" : Str),key)]⟩ [(("a" : Str),a),(("x" : Str),x),(("lo" : Str),.int 0 t0),(("hi" : Str),.none),(("key" : Str),key)]:=by
 refine vd H fun fd T d hp hT hd => ?_
 obtain ⟨f1,f2,f3,f4,f5,f6,f7,f8,f9,f10,f11,f12,f13,f14,f15⟩:=fd
 obtain ⟨p1,p2,p3,p4,p5,g1,g2,g3,hp⟩:=hp
 dsimp only at hp hT hd
 subst hp hT hd
 exact ⟨_,rfl,.inl rfl⟩
theorem VI (H : qQ s.heap fd t0) (a x lo key : Value) : BindsTo s fd ⟨[a,x,lo],[(("key" : Str),key)]⟩ [(("a" : Str),a),(("x" : Str),x),(("lo" : Str),lo),(("hi" : Str),.none),(("key" : Str),key)]:=by
 refine vd H fun fd T d hp hT hd => ?_
 obtain ⟨f1,f2,f3,f4,f5,f6,f7,f8,f9,f10,f11,f12,f13,f14,f15⟩:=fd
 obtain ⟨p1,p2,p3,p4,p5,g1,g2,g3,hp⟩:=hp
 dsimp only at hp hT hd
 subst hp hT hd
 exact ⟨_,rfl,.inl rfl⟩
theorem Ws (H : qQ s.heap fd t0) (a x lo hi : Value) : BindsTo s fd ⟨[a,x,lo,hi],[]⟩ [(("a" : Str),a),(("x" : Str),x),(("lo" : Str),lo),(("hi" : Str),hi),(("key" : Str),.none)]:=by
 refine vd H fun fd T d hp hT hd => ?_
 obtain ⟨f1,f2,f3,f4,f5,f6,f7,f8,f9,f10,f11,f12,f13,f14,f15⟩:=fd
 obtain ⟨p1,p2,p3,p4,p5,g1,g2,g3,hp⟩:=hp
 dsimp only at hp hT hd
 subst hp hT hd
 exact ⟨_,rfl,.inr ⟨_,_,_,rfl,rfl⟩⟩
theorem Zp (H : qQ s.heap fd t0) (a x lo hi key : Value) : BindsTo s fd ⟨[a,x,lo,hi],[(("key" : Str),key)]⟩ [(("a" : Str),a),(("x" : Str),x),(("lo" : Str),lo),(("hi" : Str),hi),(("key" : Str),key)]:=by
 refine vd H fun fd T d hp hT hd => ?_
 obtain ⟨f1,f2,f3,f4,f5,f6,f7,f8,f9,f10,f11,f12,f13,f14,f15⟩:=fd
 obtain ⟨p1,p2,p3,p4,p5,g1,g2,g3,hp⟩:=hp
 dsimp only at hp hT hd
 subst hp hT hd
 exact ⟨_,rfl,.inl rfl⟩
end
end
section
variable {prog : Program} {w : World} {B : Heap} {mg mb : Str → Option Value}
theorem qD (G : Gl B mg mb) (hl : mg "len" = none ∧ mb "len" = some (.builtin "len")) {f : Addr} {fd : FuncData} (H : zi B mg "bisect_left" kz f fd) {k : Nat} {A : Around} {s : Shared} {M₁ : Addr → Prop} {τ : Type} {P : τ → Prop} {J : Nat → τ → Prop} {μk : τ → List (Addr × D)} {step : τ → D → τ × D} {kf : Addr} {fo : Obj} {kfd : FuncData} {xs : List D} {xd hd : D} {ra : RV} {μa : List (Addr × D)} {va vx vhi : Value} {t : Tok} {args : Args} (lt : D → Bool) (lo hi : Nat) (c₀ : τ)
   (R : Rm A (k + 1)) (X : zR B s.heap) (hold : ∀ a,M₁ a → ∃ o,s.heap.get? a = some o) (hw : ∀ c a x,(a,x) ∈ μk c → M₁ a ∧ B.get? a = none) (hfd : fo.data = .func kfd) (hfo : s.heap.get? kf = some fo) (hfm : ¬ M₁ kf)
   (K : ya prog w k (hideAll s.heap ((μk c₀).map (·.1))) M₁ kf xs P μk step) (hJP : ∀ n c,J n c → P c) (hP : J (hi - lo) c₀) (hPstep : ∀ n c d,J (n + 1) c → d ∈ xs → J n (step c d).1) (hJm : ∀ n m c,m ≤ n → J n c → J m c) (hfst : ∀ c c',(μk c).map (·.1) = (μk c').map (·.1))
   (hp : yv ra μa xs) (hva : zm prog w s.heap M₁ va ra) (hμ : ∀ a d,(a,d) ∈ μa ++ μk c₀ → zc prog w s.heap M₁ a d) (hnd : ((μa ++ μk c₀).map (·.1)).Nodup) (rx : Rp prog w s.heap M₁ vx xd) (rh : Rp prog w s.heap M₁ vhi hd)
   (hb : BindsTo s fd args [("a",va),("x",vx),("lo",.int lo t),("hi",vhi),("key",.ref kf)])
   (hsz : xs.length ≤ 100000) (hhi : (hd = .none ∧ hi = xs.length) ∨ hd = .int hi) (hhl : hi ≤ xs.length) (hcmp : ∀ c d,P c → d ∈ xs → zN prog w .Lt (step c d).2 xd (lt (step c d).2))
   {Q E : Value → Shared → Prop}
   (hQ : ∀ v s',Yb ((μk c₀).map (·.1)) s s' → P (zg (fun c d => ((step c d).1,lt (step c d).2)) xs (hi - lo) lo hi c₀).1 → (∀ a x,(a,x) ∈ μk (zg (fun c d => ((step c d).1,lt (step c d).2)) xs (hi - lo) lo hi c₀).1 → zc prog w s'.heap M₁ a x) →
     Rp prog w s'.heap M₁ v (.int (zg (fun c d => ((step c d).1,lt (step c d).2)) xs (hi - lo) lo hi c₀).2) → Q v s') : wpAny (model prog w) A (PySem.call (.ref f) args.pos args.kw) Q E s:=by
 obtain ⟨o,ho,hd'⟩:=H.get
 have XB:=xn (h:=s.heap) ((μk c₀).map (·.1)) X fun a z => by obtain ⟨⟨a',y⟩,hm,rfl⟩:=List.mem_map.mp z; exact (hw c₀ a' y hm).2
 have H':=H.ext XB
 have G':=G.ext XB
 refine wpAny_call (kG (M₀:=M₁) (Own₀:=fun a => a ∈ (μk c₀).map (·.1)) (B:=hideAll s.heap ((μk c₀).map (·.1))) (μ₀:=μa ++ μk c₀)
   (ρ₀:=[(Str.ofString "a",ra),(Str.ofString "x",.dat xd),(Str.ofString "lo",.dat (.int lo)),(Str.ofString "hi",.dat hd),(Str.ofString "key",.dat (.ob kf fo))]) H'.ok R (X f o ho) hd' G'.lim (yO _) (ze H.code X) H.body hb (by simp only [List.map_cons,List.map_nil]; decide) ?_ hold (fun a z => ?_) (fun x c e => by rw [H.clo] at e; cases e) ?_ hμ hnd ?_)
 · rw [H.scope]; k_extra "kd"
 · obtain ⟨⟨a',y⟩,hm,rfl⟩:=List.mem_map.mp z
   exact ⟨(hw c₀ a' y hm).1,xl _ z⟩
 · refine all_cons ?_ (all_cons ?_ (all_cons ?_ (all_cons ?_ (all_cons ?_ all_nil))))
   · exact .inl ⟨va,.head _,hva⟩
   · exact .inl ⟨vx,yo,rx⟩
   · exact .inl ⟨.int lo t,xA,.int _ _⟩
   · exact .inl ⟨vhi,jM,rh⟩
   · exact .inl ⟨.ref kf,j5,.ob hfo hfm⟩
 · intro env Own M s₁ R' hO hMM S
   rw [H.scope] at S
   refine wpAny_mono (E:=fun _ _ => False) (Ze G' hl lo hi (R'.le (Nat.zero_le _)) hp hsz hhi S fun s₂ S₂ => QT G' lt lo hi c₀ R' hfd K hJP hP hPstep hJm (fun a o m e => (hMM a m).resolve_right fun n => by rw [yO _ a o e] at n; cases n) S₂.more (fun c a x hm => hO a (by rw [hfst c₀ c]; exact List.mem_map.mpr ⟨_,hm,rfl⟩)) hfst hp hsz hhl hcmp S₂ (Q:=fun fl s' => ∃ v,fl = .ret v ∧ Q v s') fun v s' ρ' S' hP' rv => ⟨v,rfl, ?_⟩) (fun fl s' q => ?_) fun _ _ x => x.elim
   · obtain ⟨h',tk,e⟩:=S'.same
     refine hQ v s' ⟨h',tk,e,fun a o n q => ?_⟩ hP' (fun a x hm => (S'.e.mem a x (List.mem_append_right _ hm)).to (fun _ e => e) fun b o m e => ⟨e,fun z => m (S'.more b z)⟩) (rv.less S'.more)
     have:=S'.keep a o n q
     rw [e] at this; exact this
   · obtain ⟨v,rfl,q⟩:=q
     exact q
theorem ZC (G : Gl B mg mb) (hl : mg "len" = none ∧ mb "len" = some (.builtin "len")) {f : Addr} {fd : FuncData} (H : zi B mg "bisect_right" YD f fd) {k : Nat} {A : Around} {s : Shared} {M₁ : Addr → Prop} {τ : Type} {P : τ → Prop} {J : Nat → τ → Prop} {μk : τ → List (Addr × D)} {step : τ → D → τ × D} {kf : Addr} {fo : Obj} {kfd : FuncData} {xs : List D} {xd hd : D} {ra : RV} {μa : List (Addr × D)} {va vx vhi : Value} {t : Tok} {args : Args} (lt : D → Bool) (lo hi : Nat) (c₀ : τ)
   (R : Rm A (k + 1)) (X : zR B s.heap) (hold : ∀ a,M₁ a → ∃ o,s.heap.get? a = some o) (hw : ∀ c a x,(a,x) ∈ μk c → M₁ a ∧ B.get? a = none) (hfd : fo.data = .func kfd) (hfo : s.heap.get? kf = some fo) (hfm : ¬ M₁ kf)
   (K : ya prog w k (hideAll s.heap ((μk c₀).map (·.1))) M₁ kf xs P μk step) (hJP : ∀ n c,J n c → P c) (hP : J (hi - lo) c₀) (hPstep : ∀ n c d,J (n + 1) c → d ∈ xs → J n (step c d).1) (hJm : ∀ n m c,m ≤ n → J n c → J m c) (hfst : ∀ c c',(μk c).map (·.1) = (μk c').map (·.1))
   (hp : yv ra μa xs) (hva : zm prog w s.heap M₁ va ra) (hμ : ∀ a d,(a,d) ∈ μa ++ μk c₀ → zc prog w s.heap M₁ a d) (hnd : ((μa ++ μk c₀).map (·.1)).Nodup) (rx : Rp prog w s.heap M₁ vx xd) (rh : Rp prog w s.heap M₁ vhi hd)
   (hb : BindsTo s fd args [("a",va),("x",vx),("lo",.int lo t),("hi",vhi),("key",.ref kf)])
   (hsz : xs.length ≤ 100000) (hhi : (hd = .none ∧ hi = xs.length) ∨ hd = .int hi) (hhl : hi ≤ xs.length) (hcmp : ∀ c d,P c → d ∈ xs → zN prog w .Lt xd (step c d).2 (lt (step c d).2))
   {Q E : Value → Shared → Prop}
   (hQ : ∀ v s',Yb ((μk c₀).map (·.1)) s s' → P (zg (fun c d => ((step c d).1,!lt (step c d).2)) xs (hi - lo) lo hi c₀).1 → (∀ a x,(a,x) ∈ μk (zg (fun c d => ((step c d).1,!lt (step c d).2)) xs (hi - lo) lo hi c₀).1 → zc prog w s'.heap M₁ a x) →
     Rp prog w s'.heap M₁ v (.int (zg (fun c d => ((step c d).1,!lt (step c d).2)) xs (hi - lo) lo hi c₀).2) → Q v s') : wpAny (model prog w) A (PySem.call (.ref f) args.pos args.kw) Q E s:=by
 obtain ⟨o,ho,hd'⟩:=H.get
 have XB:=xn (h:=s.heap) ((μk c₀).map (·.1)) X fun a z => by obtain ⟨⟨a',y⟩,hm,rfl⟩:=List.mem_map.mp z; exact (hw c₀ a' y hm).2
 have H':=H.ext XB
 have G':=G.ext XB
 refine wpAny_call (kG (M₀:=M₁) (Own₀:=fun a => a ∈ (μk c₀).map (·.1)) (B:=hideAll s.heap ((μk c₀).map (·.1))) (μ₀:=μa ++ μk c₀)
   (ρ₀:=[(Str.ofString "a",ra),(Str.ofString "x",.dat xd),(Str.ofString "lo",.dat (.int lo)),(Str.ofString "hi",.dat hd),(Str.ofString "key",.dat (.ob kf fo))]) H'.ok R (X f o ho) hd' G'.lim (yO _) (ze H.code X) H.body hb (by simp only [List.map_cons,List.map_nil]; decide) ?_ hold (fun a z => ?_) (fun x c e => by rw [H.clo] at e; cases e) ?_ hμ hnd ?_)
 · rw [H.scope]; k_extra "kd"
 · obtain ⟨⟨a',y⟩,hm,rfl⟩:=List.mem_map.mp z
   exact ⟨(hw c₀ a' y hm).1,xl _ z⟩
 · refine all_cons ?_ (all_cons ?_ (all_cons ?_ (all_cons ?_ (all_cons ?_ all_nil))))
   · exact .inl ⟨va,.head _,hva⟩
   · exact .inl ⟨vx,yo,rx⟩
   · exact .inl ⟨.int lo t,xA,.int _ _⟩
   · exact .inl ⟨vhi,jM,rh⟩
   · exact .inl ⟨.ref kf,j5,.ob hfo hfm⟩
 · intro env Own M s₁ R' hO hMM S
   rw [H.scope] at S
   refine wpAny_mono (E:=fun _ _ => False) (ZK G' hl lo hi (R'.le (Nat.zero_le _)) hp hsz hhi S fun s₂ S₂ => QA G' lt lo hi c₀ R' hfd K hJP hP hPstep hJm (fun a o m e => (hMM a m).resolve_right fun n => by rw [yO _ a o e] at n; cases n) S₂.more (fun c a x hm => hO a (by rw [hfst c₀ c]; exact List.mem_map.mpr ⟨_,hm,rfl⟩)) hfst hp hsz hhl hcmp S₂ (Q:=fun fl s' => ∃ v,fl = .ret v ∧ Q v s') fun v s' ρ' S' hP' rv => ⟨v,rfl, ?_⟩) (fun fl s' q => ?_) fun _ _ x => x.elim
   · obtain ⟨h',tk,e⟩:=S'.same
     refine hQ v s' ⟨h',tk,e,fun a o n q => ?_⟩ hP' (fun a x hm => (S'.e.mem a x (List.mem_append_right _ hm)).to (fun _ e => e) fun b o m e => ⟨e,fun z => m (S'.more b z)⟩) (rv.less S'.more)
     have:=S'.keep a o n q
     rw [e] at this; exact this
   · obtain ⟨v,rfl,q⟩:=q
     exact q
theorem kl (G : Gl B mg mb) (hl : mg "len" = none ∧ mb "len" = some (.builtin "len")) {f : Addr} {fd : FuncData} (H : zi B mg "bisect_left" kz f fd) {k : Nat} {A : Around} {s : Shared} {M₁ : Addr → Prop} {xs : List D} {xd hd : D} {ra : RV} {μa : List (Addr × D)} {va vx vhi : Value} {t : Tok} {args : Args} (lt : D → Bool) (lo hi : Nat)
   (R : Rm A (k + 1)) (X : zR B s.heap) (hold : ∀ a,M₁ a → ∃ o,s.heap.get? a = some o)
   (hp : yv ra μa xs) (hva : zm prog w s.heap M₁ va ra) (hμ : ∀ a d,(a,d) ∈ μa → zc prog w s.heap M₁ a d) (rx : Rp prog w s.heap M₁ vx xd) (rh : Rp prog w s.heap M₁ vhi hd)
   (hb : BindsTo s fd args [("a",va),("x",vx),("lo",.int lo t),("hi",vhi),("key",.none)])
   (hsz : xs.length ≤ 100000) (hhi : (hd = .none ∧ hi = xs.length) ∨ hd = .int hi) (hhl : hi ≤ xs.length) (hcmp : ∀ d,d ∈ xs → zN prog w .Lt d xd (lt d))
   {Q E : Value → Shared → Prop}
   (hQ : ∀ v s',Keeps s s' → Rp prog w s'.heap M₁ v (.int (zg (fun (c : Unit) d => (c,(lt d))) xs (hi - lo) lo hi ()).2) → Q v s') : wpAny (model prog w) A (PySem.call (.ref f) args.pos args.kw) Q E s:=by
 obtain ⟨o,ho,hd'⟩:=H.get
 have hnd : (μa.map (·.1)).Nodup:=by
   rcases hp with ⟨_,rfl⟩ | ⟨l,_,rfl⟩
   · exact List.nodup_nil
   · simp
 refine wpAny_call (kG (M₀:=M₁) (Own₀:=fun a => False) (B:=B) (μ₀:=μa)
   (ρ₀:=[(Str.ofString "a",ra),(Str.ofString "x",.dat xd),(Str.ofString "lo",.dat (.int lo)),(Str.ofString "hi",.dat hd),(Str.ofString "key",.dat .none)]) H.ok R (X f o ho) hd' G.lim X (ze H.code X) H.body hb (by simp only [List.map_cons,List.map_nil]; decide) ?_ hold (fun a z => z.elim) (fun x c e => by rw [H.clo] at e; cases e) ?_ hμ hnd ?_)
 · rw [H.scope]; k_extra "kd"
 · refine all_cons ?_ (all_cons ?_ (all_cons ?_ (all_cons ?_ (all_cons ?_ all_nil))))
   · exact .inl ⟨va,.head _,hva⟩
   · exact .inl ⟨vx,yo,rx⟩
   · exact .inl ⟨.int lo t,xA,.int _ _⟩
   · exact .inl ⟨vhi,jM,rh⟩
   · exact .inl ⟨.none,j5,.none⟩
 · intro env Own M s₁ R' hO hMM S
   rw [H.scope] at S
   refine wpAny_mono (E:=fun _ _ => False) (Ze (μ:=[]) G hl lo hi (R'.le (Nat.zero_le _)) hp hsz hhi (by rw [List.append_nil]; exact S) fun s₂ S₂ => Wi G lt lo hi (R'.le (Nat.zero_le _)) hp hsz hhl hcmp (by rw [List.append_nil] at S₂; exact S₂) (Q:=fun fl s' => ∃ v,fl = .ret v ∧ Q v s') fun v s' ρ' S' rv => ⟨v,rfl, ?_⟩) (fun fl s' q => ?_) fun _ _ x => x.elim
   · obtain ⟨h',tk,e⟩:=S'.same
     refine hQ v s' ⟨h',tk,e,fun a o q => ?_⟩ (rv.less S'.more)
     have:=S'.keep a o (fun z => z) q
     rw [e] at this; exact this
   · obtain ⟨v,rfl,q⟩:=q
     exact q
theorem kI (G : Gl B mg mb) (hl : mg "len" = none ∧ mb "len" = some (.builtin "len")) {f : Addr} {fd : FuncData} (H : zi B mg "bisect_right" YD f fd) {k : Nat} {A : Around} {s : Shared} {M₁ : Addr → Prop} {xs : List D} {xd hd : D} {ra : RV} {μa : List (Addr × D)} {va vx vhi : Value} {t : Tok} {args : Args} (lt : D → Bool) (lo hi : Nat)
   (R : Rm A (k + 1)) (X : zR B s.heap) (hold : ∀ a,M₁ a → ∃ o,s.heap.get? a = some o)
   (hp : yv ra μa xs) (hva : zm prog w s.heap M₁ va ra) (hμ : ∀ a d,(a,d) ∈ μa → zc prog w s.heap M₁ a d) (rx : Rp prog w s.heap M₁ vx xd) (rh : Rp prog w s.heap M₁ vhi hd)
   (hb : BindsTo s fd args [("a",va),("x",vx),("lo",.int lo t),("hi",vhi),("key",.none)])
   (hsz : xs.length ≤ 100000) (hhi : (hd = .none ∧ hi = xs.length) ∨ hd = .int hi) (hhl : hi ≤ xs.length) (hcmp : ∀ d,d ∈ xs → zN prog w .Lt xd d (lt d))
   {Q E : Value → Shared → Prop}
   (hQ : ∀ v s',Keeps s s' → Rp prog w s'.heap M₁ v (.int (zg (fun (c : Unit) d => (c,!(lt d))) xs (hi - lo) lo hi ()).2) → Q v s') : wpAny (model prog w) A (PySem.call (.ref f) args.pos args.kw) Q E s:=by
 obtain ⟨o,ho,hd'⟩:=H.get
 have hnd : (μa.map (·.1)).Nodup:=by
   rcases hp with ⟨_,rfl⟩ | ⟨l,_,rfl⟩
   · exact List.nodup_nil
   · simp
 refine wpAny_call (kG (M₀:=M₁) (Own₀:=fun a => False) (B:=B) (μ₀:=μa)
   (ρ₀:=[(Str.ofString "a",ra),(Str.ofString "x",.dat xd),(Str.ofString "lo",.dat (.int lo)),(Str.ofString "hi",.dat hd),(Str.ofString "key",.dat .none)]) H.ok R (X f o ho) hd' G.lim X (ze H.code X) H.body hb (by simp only [List.map_cons,List.map_nil]; decide) ?_ hold (fun a z => z.elim) (fun x c e => by rw [H.clo] at e; cases e) ?_ hμ hnd ?_)
 · rw [H.scope]; k_extra "kd"
 · refine all_cons ?_ (all_cons ?_ (all_cons ?_ (all_cons ?_ (all_cons ?_ all_nil))))
   · exact .inl ⟨va,.head _,hva⟩
   · exact .inl ⟨vx,yo,rx⟩
   · exact .inl ⟨.int lo t,xA,.int _ _⟩
   · exact .inl ⟨vhi,jM,rh⟩
   · exact .inl ⟨.none,j5,.none⟩
 · intro env Own M s₁ R' hO hMM S
   rw [H.scope] at S
   refine wpAny_mono (E:=fun _ _ => False) (ZK (μ:=[]) G hl lo hi (R'.le (Nat.zero_le _)) hp hsz hhi (by rw [List.append_nil]; exact S) fun s₂ S₂ => VW G lt lo hi (R'.le (Nat.zero_le _)) hp hsz hhl hcmp (by rw [List.append_nil] at S₂; exact S₂) (Q:=fun fl s' => ∃ v,fl = .ret v ∧ Q v s') fun v s' ρ' S' rv => ⟨v,rfl, ?_⟩) (fun fl s' q => ?_) fun _ _ x => x.elim
   · obtain ⟨h',tk,e⟩:=S'.same
     refine hQ v s' ⟨h',tk,e,fun a o q => ?_⟩ (rv.less S'.more)
     have:=S'.keep a o (fun z => z) q
     rw [e] at this; exact this
   · obtain ⟨v,rfl,q⟩:=q
     exact q
theorem qQ.ext {h h' : Heap} {fd : FuncData} {t0 : Tok} (H : qQ h fd t0) (X : zR h h') : qQ h' fd t0:=by
 refine ⟨H.par, ?_, ?_⟩
 · obtain ⟨T,o,n,h1,h2,h3⟩:=H.dfl; exact ⟨T,o,n,h1,X _ _ h2,h3⟩
 · obtain ⟨d,m,h1,h2,h3⟩:=H.kwd; exact ⟨d,m,h1,h2.keeps X,h3⟩
noncomputable def w7 (le : D → Bool) (xs : List D) : Nat:=(zg (fun (c : Unit) d => (c,le d)) xs (xs.length - 0) 0 xs.length ()).2
noncomputable def qK (le : D → Bool) (xs : List D) (x : D) : List D:=xs.take (w7 le xs) ++ x :: xs.drop (w7 le xs)
theorem Z8 {τ : Type} (go : τ → D → τ × Bool) (xs : List D) : ∀ (n lo hi : Nat) (c : τ),lo ≤ hi → (zg go xs n lo hi c).2 ≤ hi
 | 0,lo,hi,c,h => h
 | n + 1,lo,hi,c,h => by
  simp only [zg]
  split
  · split
    · exact Z8 go xs n _ _ _ (by k_extra "o")
    · exact Nat.le_trans (Z8 go xs n _ _ _ (by k_extra "o")) (by k_extra "o")
  · exact h
theorem Yj (le : D → Bool) (xs : List D) : w7 le xs ≤ xs.length:=Z8 _ _ _ _ _ _ (Nat.zero_le _)
structure J1 (B : Heap) (mg mb : Str → Option Value) : Prop where
 G : Gl B mg mb
 len : mg "len" = none ∧ mb "len" = some (.builtin "len")
 ins : ∃ f fd t,zi B mg "insort_right" VJ f fd ∧ qQ B fd t
 right : ∃ f fd t,zi B mg "bisect_right" YD f fd ∧ qQ B fd t
 left : ∃ f fd t,zi B mg "bisect_left" kz f fd ∧ qQ B fd t
theorem J1.ext {B' : Heap} (H : J1 B mg mb) (X : zR B B') : J1 B' mg mb:=by
 refine ⟨H.G.ext X,H.len, ?_, ?_, ?_⟩
 · obtain ⟨f,fd,t,h1,h2⟩:=H.ins; exact ⟨f,fd,t,h1.ext X,h2.ext X⟩
 · obtain ⟨f,fd,t,h1,h2⟩:=H.right; exact ⟨f,fd,t,h1.ext X,h2.ext X⟩
 · obtain ⟨f,fd,t,h1,h2⟩:=H.left; exact ⟨f,fd,t,h1.ext X,h2.ext X⟩
theorem YE (H : J1 B mg mb) {f : Addr} {fd : FuncData} {t : Tok} (HI : zi B mg "insort_right" VJ f fd) (BI : qQ B fd t) {k : Nat} {A : Around} {s : Shared} {M₁ : Addr → Prop} {step : D → D} {kf : Addr} {fo : Obj} {kfd : FuncData} {xs ys : List D} {xd : D} {L : Addr} {vx : Value} (lt : D → Bool)
   (R : Rm A (k + 2)) (X : zR B s.heap) (hold : ∀ a,M₁ a → ∃ o,s.heap.get? a = some o) (hL : M₁ L) (hLB : B.get? L = none) (hfd : fo.data = .func kfd) (hfo : s.heap.get? kf = some fo) (hfm : ¬ M₁ kf)
   (K : ya prog w k (hideAll s.heap [L]) M₁ kf ys (fun _ : Unit => True) (fun _ => []) (fun c d => (c,step d))) (hxs : ∀ d ∈ xs,d ∈ ys) (hxd : xd ∈ ys)
   (hμ : zc prog w s.heap M₁ L (.list xs)) (rx : Rp prog w s.heap M₁ vx xd) (hsz : xs.length ≤ 100000) (hcmp : ∀ d,d ∈ xs → zN prog w .Lt (step xd) (step d) (lt (step d)))
   {Q E : Value → Shared → Prop}
   (hQ : ∀ s',Yb [L] s s' → zc prog w s'.heap M₁ L (.list (qK (fun d => !lt (step d)) xs xd)) → Q .none s') : wpAny (model prog w) A (PySem.call (.ref f) [.ref L,vx] [("key",.ref kf)]) Q E s:=by
 obtain ⟨o,ho,hd'⟩:=HI.get
 have XB : zR B (hideAll s.heap [L]):=xn (h:=s.heap) [L] X fun a z => by cases List.mem_singleton.mp z; exact hLB
 have H':=H.ext XB
 obtain ⟨rf,rfd,rt,HR,BR⟩:=H'.right
 have hN : ∀ a,a ∉ [L] → ∀ o,s.heap.get? a = some o → (hideAll s.heap [L]).get? a = some o:=fun a n o e => hideAll_get _ e n
 refine wpAny_call (kG (M₀:=M₁) (Own₀:=fun a => a = L) (B:=hideAll s.heap [L]) (μ₀:=[(L,.list xs)])
   (ρ₀:=[(Str.ofString "a",.adr L),(Str.ofString "x",.dat xd),(Str.ofString "lo",.dat (.int 0)),(Str.ofString "hi",.dat .none),(Str.ofString "key",.dat (.ob kf fo))]) HI.ok R (X f o ho) hd' H'.G.lim (yO _) (ze HI.code X) HI.body (ZY (BI.ext X) (.ref L) vx (.ref kf)) (by simp only [List.map_cons,List.map_nil]; decide) ?_ hold (fun a z => ?_) (fun x c e => by rw [HI.clo] at e; cases e) ?_ (fun a d hm => ?_) (by simp) ?_)
 · rw [HI.scope]; k_extra "kd"
 · subst z; exact ⟨hL,xl _ (by simp)⟩
 · refine all_cons ?_ (all_cons ?_ (all_cons ?_ (all_cons ?_ (all_cons ?_ all_nil))))
   · exact .inl ⟨.ref L,.head _,rfl⟩
   · exact .inl ⟨vx,yo,rx⟩
   · exact .inl ⟨.int 0 t,xA,.int _ _⟩
   · exact .inl ⟨.none,jM,.none⟩
   · exact .inl ⟨.ref kf,j5,.ob hfo hfm⟩
 · cases List.mem_singleton.mp hm; exact hμ
 · intro env Own M s₁ R' hO hMM S
   rw [HI.scope] at S
   have R0 : Rm (A.deeper env) 0:=R'.le (Nat.zero_le _)
   have Rk : Rm (A.deeper env) k:=R'.le (Nat.le_succ _)
   refine wpAny_mono (E:=fun _ _ => False) (Q:=fun fl s' => fl = .next ∧ Q .none s') ?_ (fun fl s' q => by obtain ⟨rfl,q⟩:=q; exact q) fun _ _ x => x.elim
   have G:=H'.G
   k_extra "if"
   show wpAny _ _ (execs (if false = true then _ else _) env) _ _ _
   simp only [Bool.false_eq_true,if_false]
   have hMb : ∀ a o,M a → (hideAll s.heap [L]).get? a = some o → M₁ a:=fun a o m e => (hMM a m).resolve_right fun n => by rw [yO _ a o e] at n; cases n
   refine' wU (s₀:=s) (Own₀:=fun a => a = L) (M₀:=M₁) (B:=hideAll s.heap [L]) (names:=(zZ VJ).names) ?g1 ?g2 ?g3
   case g1 => rfl
   case g2 => k_extra "kd"
   refine' xo (f:=.ref rf) (rs:=[.adr L,.dat (step xd),.dat (.int 0),.dat .none]) S.e ?gf ?gk ?gx ?ge ?gq
   case ge => exact rfl
   case gf => k_extra "z"
   case gk => exact HR.keepy
   case gx =>
     refine .cons (Ev.var S.e ?x1 ?x2) (.cons (r:=.dat (step xd)) (Ev.key S.e Rk (x:=Str.ofString "key") ?y1 ?y2 hfd (fun _ => rfl) ?y3 hxd K hMb S.more) (.cons (r:=.dat (.int 0)) ?z1 (.cons (r:=.dat .none) ?z2 .nil fun _ => rfl) fun _ => rfl) fun _ => rfl) fun _ => rfl
     case x1 => k_extra "mem"
     case x2 => k_extra "kd"
     case y1 => k_extra "mem"
     case y2 => k_extra "kd"
     case y3 | z1 | z2 => k_extra "z"
   case gq =>
     intro vs s₂ k₂ rs
     have S₂:=S.step k₂
     refine Ev.var S₂.e (x:=Str.ofString "key") (r:=.dat (.ob kf fo)) ?v1 ?v2 s₂ _ _ (zR.refl _) fun kv s₃ k₃ rk => ?_
     case v1 => k_extra "mem"
     case v2 => k_extra "kd"
     obtain ⟨rfl,ek,mk⟩:=Rp.ob_inv rk
     have S₃:=S₂.step k₃
     have X₃:=S₃.e.base
     refine ⟨X₃, ?_⟩
     refine zP.use4 rs fun v1 v2 v3 v4 r1 r2 r3 r4 => ?_
     have r1 : v1 = .ref L:=r1
     subst r1
     obtain ⟨t3,rfl⟩:=Rp.int_inv r3
     obtain rfl:=Rp.none_inv r4
     refine ZC (τ:=Unit) (P:=fun _ => True) (J:=fun _ _ => True) (μk:=fun _ => []) (step:=fun c d => (c,step d)) (args:=⟨[.ref L,v2,.int 0 t3,.none],[("key",.ref kf)]⟩) (ra:=.adr L) (μa:=[(L,.list xs)]) (xd:=step xd) G H'.len HR lt 0 xs.length () R' X₃ S₃.e.old (fun _ _ _ hm => by cases hm) hfd ek mk ?bk (fun _ _ _ => trivial) trivial (fun _ _ _ _ _ => trivial) (fun _ _ _ _ _ => trivial) (fun _ _ => rfl) (.inr ⟨L,rfl,rfl⟩) rfl
      (fun a d hm => S₃.e.mem a d (by simpa using hm)) (by simp) (Rp.ext (ke k₃) r2) .none (Zp (BR.ext X₃) (.ref L) v2 (.int 0 t3) .none (.ref kf)) hsz (.inl ⟨rfl,rfl⟩) (Nat.le_refl _) (fun _ d _ hd => hcmp d hd) ?bq
     case bk =>
      refine K.base (fun a o e => hideAll_get _ (X₃ a o e) (by simp)) (fun a o m e => hMb a o m e) S₃.more hxs
     case bq =>
      intro v s₄ ef _ _ rv
      have k₄ : Keeps s₃ s₄:=by obtain ⟨h',tk,rfl,kk⟩:=ef; exact ⟨h',tk,rfl,fun a o e => kk a o (by simp) e⟩
      refine ⟨_,_,_,_,.dat _,S₃.step k₄,rv, ?_⟩
      have hi : (zg (fun (c : Unit) d => (c,!lt (step d))) xs (xs.length - 0) 0 xs.length ()).2 = w7 (fun d => !lt (step d)) xs:=rfl
      rw [hi]
      clear S S₂ S₃
      intro s' S
      refine zD ?_
      show wpAny _ _ (execs (_ :: []) env) _ _ _
      refine' vi (pre:=[]) S R0 ?m1 ?m2 rfl (hO _ rfl) rfl ?m3 ?m4 ?m5 (ds:=[.int (w7 (fun d => !lt (step d)) xs),xd]) ?m6 (by decide) (by rfl) (xI.insert xs (w7 (fun d => !lt (step d)) xs) _ xd rfl (Yj _ _) (by rw [sizeLine_eq]; k_extra "o")) ?m7
      case m1 => k_extra "mem"
      case m2 => k_extra "kd"
      case m3 => k_extra "pa"
      case m4 => k_extra "slot"
      case m5 => k_extra "mty"
      case m6 => k_extra "z"
      case m7 =>
       intro s'' S''
       refine zD ⟨rfl,hQ s'' ?_ ?_⟩
       · obtain ⟨h',tk,e⟩:=S''.same
         refine ⟨h',tk,e,fun a o n q => ?_⟩
         have:=S''.keep a o (by simpa using n) q
         rw [e] at this; exact this
       · exact (S''.e.mem L _ (.head _)).to (fun _ e => e) fun b o m e => ⟨e,fun z => m (S''.more b z)⟩
theorem ZA (H : J1 B mg mb) {f : Addr} {fd : FuncData} {t : Tok} (HI : zi B mg "insort_right" VJ f fd) (BI : qQ B fd t) {k : Nat} {A : Around} {s : Shared} {M₁ : Addr → Prop} {xs : List D} {xd : D} {L : Addr} {vx : Value} (lt : D → Bool)
   (R : Rm A (k + 2)) (X : zR B s.heap) (hold : ∀ a,M₁ a → ∃ o,s.heap.get? a = some o) (hL : M₁ L) (hLB : B.get? L = none)
   (hμ : zc prog w s.heap M₁ L (.list xs)) (rx : Rp prog w s.heap M₁ vx xd) (hsz : xs.length ≤ 100000) (hcmp : ∀ d,d ∈ xs → zN prog w .Lt xd d (lt d))
   {Q E : Value → Shared → Prop}
   (hQ : ∀ s',Yb [L] s s' → zc prog w s'.heap M₁ L (.list (qK (fun d => !lt d) xs xd)) → Q .none s') : wpAny (model prog w) A (PySem.call (.ref f) [.ref L,vx]) Q E s:=by
 obtain ⟨o,ho,hd'⟩:=HI.get
 have XB : zR B (hideAll s.heap [L]):=xn (h:=s.heap) [L] X fun a z => by cases List.mem_singleton.mp z; exact hLB
 have H':=H.ext XB
 obtain ⟨rf,rfd,rt,HR,BR⟩:=H'.right
 have hN : ∀ a,a ∉ [L] → ∀ o,s.heap.get? a = some o → (hideAll s.heap [L]).get? a = some o:=fun a n o e => hideAll_get _ e n
 refine wpAny_call (kG (M₀:=M₁) (Own₀:=fun a => a = L) (B:=hideAll s.heap [L]) (μ₀:=[(L,.list xs)])
   (ρ₀:=[(Str.ofString "a",.adr L),(Str.ofString "x",.dat xd),(Str.ofString "lo",.dat (.int 0)),(Str.ofString "hi",.dat .none),(Str.ofString "key",.dat .none)]) HI.ok R (X f o ho) hd' H'.G.lim (yO _) (ze HI.code X) HI.body (Zj (BI.ext X) (.ref L) vx) (by simp only [List.map_cons,List.map_nil]; decide) ?_ hold (fun a z => ?_) (fun x c e => by rw [HI.clo] at e; cases e) ?_ (fun a d hm => ?_) (by simp) ?_)
 · rw [HI.scope]; k_extra "kd"
 · subst z; exact ⟨hL,xl _ (by simp)⟩
 · refine all_cons ?_ (all_cons ?_ (all_cons ?_ (all_cons ?_ (all_cons ?_ all_nil))))
   · exact .inl ⟨.ref L,.head _,rfl⟩
   · exact .inl ⟨vx,yo,rx⟩
   · exact .inl ⟨.int 0 t,xA,.int _ _⟩
   · exact .inl ⟨.none,jM,.none⟩
   · exact .inl ⟨.none,j5,.none⟩
 · cases List.mem_singleton.mp hm; exact hμ
 · intro env Own M s₁ R' hO hMM S
   rw [HI.scope] at S
   have R0 : Rm (A.deeper env) 0:=R'.le (Nat.zero_le _)
   have Rk : Rm (A.deeper env) k:=R'.le (Nat.le_succ _)
   refine wpAny_mono (E:=fun _ _ => False) (Q:=fun fl s' => fl = .next ∧ Q .none s') ?_ (fun fl s' q => by obtain ⟨rfl,q⟩:=q; exact q) fun _ _ x => x.elim
   have G:=H'.G
   k_extra "if"
   show wpAny _ _ (execs (if true = true then _ else _) env) _ _ _
   simp only [if_true]
   have hMb : ∀ a o,M a → (hideAll s.heap [L]).get? a = some o → M₁ a:=fun a o m e => (hMM a m).resolve_right fun n => by rw [yO _ a o e] at n; cases n
   refine' wU (s₀:=s) (Own₀:=fun a => a = L) (M₀:=M₁) (B:=hideAll s.heap [L]) (names:=(zZ VJ).names) ?g1 ?g2 ?g3
   case g1 => rfl
   case g2 => k_extra "kd"
   refine' xj (f:=.ref rf) (rs:=[.adr L,.dat xd,.dat (.int 0),.dat .none]) S.e ?gf ?gk ?gx ?gq
   case gf => k_extra "z"
   case gk => exact HR.keepy
   case gx =>
     refine .cons (Ev.var S.e ?x1 ?x2) (.cons (r:=.dat xd) ?y1 (.cons (r:=.dat (.int 0)) ?z1 (.cons (r:=.dat .none) ?z2 .nil fun _ => rfl) fun _ => rfl) fun _ => rfl) fun _ => rfl
     case x1 => k_extra "mem"
     case x2 => k_extra "kd"
     case y1 | z1 | z2 => k_extra "z"
   case gq =>
     intro vs s₃ k₂ rs
     have S₃:=S.step k₂
     have X₃:=S₃.e.base
     refine zP.use4 rs fun v1 v2 v3 v4 r1 r2 r3 r4 => ?_
     have r1 : v1 = .ref L:=r1
     subst r1
     obtain ⟨t3,rfl⟩:=Rp.int_inv r3
     obtain rfl:=Rp.none_inv r4
     refine kI (args:=⟨[.ref L,v2,.int 0 t3,.none],[]⟩) (ra:=.adr L) (μa:=[(L,.list xs)]) (xd:=xd) G H'.len HR lt 0 xs.length (k:=k) R' X₃ S₃.e.old (.inr ⟨L,rfl,rfl⟩) rfl
      (fun a d hm => S₃.e.mem a d (by simpa using hm)) r2 .none (Ws (BR.ext X₃) (.ref L) v2 (.int 0 t3) .none) hsz (.inl ⟨rfl,rfl⟩) (Nat.le_refl _) (fun d hd => hcmp d hd) ?bq
     case bq =>
      intro v s₄ k₄ rv
      refine ⟨_,_,_,_,.dat _,S₃.step k₄,rv, ?_⟩
      have hi : (zg (fun (c : Unit) d => (c,!lt d)) xs (xs.length - 0) 0 xs.length ()).2 = w7 (fun d => !lt d) xs:=rfl
      rw [hi]
      clear S S₃
      intro s' S
      refine zD ?_
      show wpAny _ _ (execs (_ :: []) env) _ _ _
      refine' vi (pre:=[]) S R0 ?m1 ?m2 rfl (hO _ rfl) rfl ?m3 ?m4 ?m5 (ds:=[.int (w7 (fun d => !lt d) xs),xd]) ?m6 (by decide) (by rfl) (xI.insert xs (w7 (fun d => !lt d) xs) _ xd rfl (Yj _ _) (by rw [sizeLine_eq]; k_extra "o")) ?m7
      case m1 => k_extra "mem"
      case m2 => k_extra "kd"
      case m3 => k_extra "pa"
      case m4 => k_extra "slot"
      case m5 => k_extra "mty"
      case m6 => k_extra "z"
      case m7 =>
       intro s'' S''
       refine zD ⟨rfl,hQ s'' ?_ ?_⟩
       · obtain ⟨h',tk,e⟩:=S''.same
         refine ⟨h',tk,e,fun a o n q => ?_⟩
         have:=S''.keep a o (by simpa using n) q
         rw [e] at this; exact this
       · exact (S''.e.mem L _ (.head _)).to (fun _ e => e) fun b o m e => ⟨e,fun z => m (S''.more b z)⟩
noncomputable def wA (n : Int) : Int:=b2i (decide (63 < n)) + b2i (decide (4095 < n)) + if decide (262143 < n) = true then 1 else 0
noncomputable def Yv (n : Int) : List Int:=wp (wA n) (-1) (-1)
theorem wj (n : Int) : 0 ≤ wA n ∧ wA n ≤ 3:=by
 unfold wA
 cases decide (63 < n) <;> cases decide (4095 < n) <;> cases decide (262143 < n) <;> simp [b2i]
theorem Z2 (n : Int) : Builtin.Range.small (wA n) (-1) (-1) = true:=by
 have:=wj n
 exact PySem.W.small_down (by k_extra "o") (by k_extra "o") (by k_extra "o") (by k_extra "o")
theorem Yh (n : Int) : ∀ k ∈ Yv n,0 ≤ k ∧ k ≤ 3:=by
 have h:=wj n
 have : ∀ t : Fin 4,∀ k ∈ wp (t : Nat) (-1) (-1),0 ≤ k ∧ k ≤ 3:=by decide
 obtain ⟨t,ht⟩ : ∃ t : Nat,wA n = t:=⟨(wA n).toNat,by k_extra "o"⟩
 have:=this ⟨t,by k_extra "o"⟩
 rw [Yv,ht]; exact this
theorem QI (n : Int) : (Yv n).length ≤ 4:=by
 have h:=wj n
 have : ∀ t : Fin 4,(wp (t : Nat) (-1) (-1)).length ≤ 4:=by decide
 obtain ⟨t,ht⟩ : ∃ t : Nat,wA n = t:=⟨(wA n).toNat,by k_extra "o"⟩
 have:=this ⟨t,by k_extra "o"⟩
 rw [Yv,ht]; exact this
noncomputable def k6 (n : Int) : List Int :=
 (Yv n).map fun k =>
  Builtin.bitAnd (n.fdiv (2 ^ (6 * k).toNat)) 63 + 64 * (if decide (0 < k) = true then 1 else 0) + 128 * (if (k.fmod 2 == 0) = true then 1 else 0)
theorem QB (G : Gl B mg mb) (hr : mg "range" = none ∧ mb "range" = some (.type "range")) (n : Int) (hn : 0 ≤ n) :
  jV prog w 0 B (yM pw 20) [Str.ofString "number"] [.int n] (.list ((k6 n).map .int)):=by
 intro A s M₀ env Own M s₁ R X S
 simp only [List.zip_cons_cons,List.map_cons,List.map_nil,List.zip_nil_right] at S
 refine' yK S ?qa ?qb ?qc ?qd
 case qb => k_extra "kd"
 case qc => rfl
 case qa => k_extra "z"
 intro s₂ S₂
 have hk0 : ∀ k ∈ Yv n,0 ≤ k ∧ k ≤ 3:=Yh n
 have hsm : Builtin.Range.small (wA n) (-1) (-1) = true:=Z2 n
 refine' WP S₂ ?qa ?qb
 case qa =>
  refine' Ev.comp1 S₂.e R ?qc ?qi ?ys ?qg ?qs ?qf ?qx ?qz ?qh ?qt
  case qc => k_extra "kd"
  case qi | qs => k_extra "z"
  case qx => k_extra "kd"
  case qh => intro _; rfl
  case qz => exact Nat.le_trans (QI n) (by decide)
  case qt =>
   intro k hk env' h' M' X hE
   have hkk:=hk0 k hk
   k_extra "z"
 exact congrArg D.list (by rw [k6,List.map_map]; rfl)
noncomputable def xK (got : Str) : List Str → Int → Int → Bool
 | [],_,_ => true
 | w :: ws,st,en => let p:=kj got w st en; if p < 0 then false else xK got ws (p + w.length) en
noncomputable def ye (got : Str) (ws : List Str) (st en : Int) : Bool:=if st > en then false else xK got ws st en
noncomputable def xH (got : Str) (ws : List Str) (st : Int) : Bool :=
 let w:=ws.getLastD Str.empty
 if w.length ≠ 0 then (if 0 + w.length ≤ got.length && Builtin.Str.subAt got w (got.length - w.length) then ye got ws.dropLast st (got.length - w.length) else false) else ye got ws st got.length
noncomputable def wZ (want got : Str) : Bool :=
 if inS zT want then
  let ws:=zz want zT
  let w:=ws.headD Str.empty
  if w.length ≠ 0 then (if 0 + w.length ≤ got.length && Builtin.Str.subAt got w 0 then xH got ws.tail w.length else false) else xH got ws 0
 else want == got
noncomputable abbrev we:=(zZ Z3).names
theorem zAR (G : Gl B mg mb) (hl : mg "len" = none ∧ mb "len" = some (.builtin "len")) {A : Around} {s s₁ : Shared} {M₀ Own M : Addr → Prop} {env : Env} (got : Str) (ws : List Str) (st en : Int) (R : Rm A 0) (h4 : ws.length ≤ 1000) (h5 : ∀ x ∈ ws,x.length ≤ 1000)
   (S : St prog w B s (fun _ => False) M₀ we env Own M [(Str.ofString "got",.dat (.str got)),(Str.ofString "ws",.dat (.list (ws.map .str))),(Str.ofString "startpos",.dat (.int st)),(Str.ofString "endpos",.dat (.int en))] [] s₁) :
   wpAny (model prog w) A (execs ((zC Z3).drop 8) env) (xP prog w B s (fun _ => False) M₀ we env (.bool (ye got ws st en))) (fun _ _ => False) s₁:=by
 k_extra "if"
 by_cases h : en < st
 · rw [decide_eq_true h]
   refine' jU (r:=.bool (ye got ws st en)) S ?qa ?qb ?qc
   case qa => k_extra "z"
   case qb => rw [ye,if_pos h]
   case qc => exact fun v s' x => x
 rw [decide_eq_false h]
 refine zD ?_
 show wpAny (model prog w) A (execs ((zC Z3).drop 9) env) _ _ _
 refine' xa (α:=Str) (σ:=Int) S R ?qv ws .str ?src (fun y => [(Str.ofString "w",.dat (.str y))]) ?asg ?fs (fun c => [(Str.ofString "startpos",.dat (.int c)),(Str.ofString "got",.dat (.str got)),(Str.ofString "endpos",.dat (.int en))]) (fun _ => [])
   (fun i c => xK got ws st en = xK got (ws.drop i) c en) (fun f _ _ => f = .ret (.bool false) ∧ ye got ws st en = false) st ?qp ?rho rfl ?off ?turn ?done ?exit
 case qv => k_extra "z"
 case src => exact .list _
 case asg => exact fun y _ => wD.name (by k_extra "kd")
 case fs => k_extra "fs"
 case qp => rfl
 case rho => intro x r hm; simp only [List.mem_cons,List.not_mem_nil,or_false] at hm ⊢; rcases hm with h | h | h <;> simp [h]
 case off => intro c y; k_extra "kd"
 case turn =>
   clear S
   intro i y c M' s₁ hy hP hMM S
   have hyl : y.length ≤ 1000:=h5 y (List.mem_of_getElem? hy)
   have hd : ws.drop i = y :: ws.drop (i + 1):=by
     obtain ⟨hi,e⟩:=List.getElem?_eq_some_iff.mp hy
     rw [List.drop_eq_getElem_cons hi,e]
   k_extra "set"
   k_extra "if"
   by_cases h0 : kj got y c en < 0
   · rw [decide_eq_true h0]
     refine' xF S ?qa ?qb
     case qa => k_extra "z"
     case qb =>
      intro v s' S' r
      refine ⟨kj got y c en,_,_,S'.sub ?_, ?_⟩
      · intro x r hm; simp only [List.mem_cons,List.not_mem_nil,or_false] at hm; rcases hm with h | h | h <;> (cases h; k_extra "mem")
      · refine ⟨by rw [r.bool_inv], ?_⟩
        rw [ye,if_neg h,hP,hd,xK]; simp [h0]
   rw [decide_eq_false h0]
   refine zD ?_
   show wpAny _ _ _ _ _ _
   k_extra "aug"
   refine zD ?_
   refine ⟨kj got y c en + y.length,_,_,S.sub ?_, ?_⟩
   · intro x r hm; simp only [List.mem_cons,List.not_mem_nil,or_false] at hm; rcases hm with h | h | h <;> (cases h; k_extra "mem")
   · show xK got ws st en = _
     rw [hP,hd,xK]; simp [h0]
 case done =>
   clear S
   intro c s' hP S
   refine zD ?_
   refine' jU (r:=.bool (ye got ws st en)) S ?qa ?qb ?qc
   case qa => k_extra "z"
   case qb => rw [ye,if_neg h,hP,List.drop_length]; rfl
   case qc => exact fun v s' x => x
 case exit =>
   rintro f c s' ⟨rfl,e⟩ S'
   exact xP.mk S' (by rw [e]; exact .bool _)
theorem J4 (G : Gl B mg mb) (hl : mg "len" = none ∧ mb "len" = some (.builtin "len")) {A : Around} {s s₁ : Shared} {M₀ Own M : Addr → Prop} {env : Env} {a : Addr} (got : Str) (ws : List Str) (st : Int) (R : Rm A 0) (h2 : got.length ≤ 1000) (h4 : ws.length ≤ 1000) (h4' : 1 ≤ ws.length) (h5 : ∀ x ∈ ws,x.length ≤ 1000)
   (na : ¬ M a) (hO : ∀ b,Own b → M b) (hm : ∀ b,M₀ b → M b)
   (S : St prog w B s (fun _ => False) M₀ we env (fun b => Own b ∨ b = a) (fun b => M b ∨ b = a) [(Str.ofString "got",.dat (.str got)),(Str.ofString "ws",.adr a),(Str.ofString "startpos",.dat (.int st)),(Str.ofString "endpos",.dat (.int got.length))] [(a,.list (ws.map .str))] s₁) :
   wpAny (model prog w) A (execs ((zC Z3).drop 6) env) (xP prog w B s (fun _ => False) M₀ we env (.bool (xH got ws st))) (fun _ _ => False) s₁:=by
 obtain ⟨wl,hwl⟩ : ∃ wl,ws[ws.length - 1]? = some wl:=⟨ws[ws.length - 1],List.getElem?_eq_getElem (Nat.sub_lt h4' (by decide))⟩
 have hlast : ws.getLastD Str.empty = wl:=by rw [List.getLastD_eq_getLast?,List.getLast?_eq_getElem?,hwl]; rfl
 have hwm : wl.length ≤ 1000:=h5 wl (List.mem_of_getElem? hwl)
 have fin : ∀ (ws' : List Str) (en : Int) {s₂ : Shared} {ρ : List (Str × RV)},(∀ x ∈ ws',x ∈ ws) → ws'.length ≤ 1000 → xH got ws st = ye got ws' st en → (Str.ofString "got",RV.dat (.str got)) ∈ ρ → (Str.ofString "ws",RV.adr a) ∈ ρ → (Str.ofString "startpos",RV.dat (.int st)) ∈ ρ → (Str.ofString "endpos",RV.dat (.int en)) ∈ ρ →
     St prog w B s (fun _ => False) M₀ we env (fun b => Own b ∨ b = a) (fun b => M b ∨ b = a) ρ [(a,.list (ws'.map .str))] s₂ →
     wpAny (model prog w) A (execs ((zC Z3).drop 8) env) (xP prog w B s (fun _ => False) M₀ we env (.bool (xH got ws st))) (fun _ _ => False) s₂:=by
   intro ws' en s₂ ρ hin hlen he g1 g2 g3 g4 S₂
   have S₃:=S₂.freeze1 g2 na hO hm (fun _ f => f.elim)
   rw [he]
   refine zAR G hl got ws' st en R hlen (fun x hx => h5 x (hin x hx)) (S₃.sub ?_)
   refine all_cons ?_ (all_cons ?_ (all_cons ?_ (all_cons ?_ all_nil)))
   · exact .tail _ g1
   · exact .head _
   · exact .tail _ g3
   · exact .tail _ g4
 refine' yK S ?sA ?sB ?sC ?sD
 case sB => k_extra "kd"
 case sC => rfl
 case sA =>
   refine' Ev.itemNeg (d:=.str wl) (i:=-1) (xs:=ws.map .str) ?qv ?qi (by decide) ?qb (by decide) ?qd
   case qv | qi => k_extra "z"
   case qb => simp; k_extra "o"
   case qd => rw [List.length_map,List.getElem?_map,zAO h4',hwl]; rfl
 k_extra "next"
 k_extra "if"
 by_cases hw : wl.length = 0
 · rw [show ((wl.length : Int) != 0) = false by simp [hw]]
   refine zD ?_
   exact fin ws got.length (fun _ h => h) h4 (by simp only [xH,hlast,hw,ne_eq,not_true,if_false]) (by k_extra "mem") (by k_extra "mem") (by k_extra "mem") (by k_extra "mem") S
 rw [show ((wl.length : Int) != 0) = true by simp [hw]]
 k_extra "if"
 cases hc : (decide (0 + wl.length ≤ got.length) && Builtin.Str.subAt got wl (got.length - wl.length))
 · refine' jU (r:=.bool (xH got ws st)) S ?qa ?qb ?qc
   case qa => k_extra "z"
   case qb => simp only [xH,hlast]; rw [if_pos hw,hc]; rfl
   case qc => exact fun v s' x => x
 show wpAny _ _ (execs (if true = true then _ else _) env) _ _ _
 simp only [if_true]
 k_extra "aug"
 refine' j4 (pre:=[]) (i:=ws.length - 1) (I:=-1) S ?dM ?dN ?dH ?dO ?dI ?dJ ?dF ?dZ ?dD
 case dM => k_extra "mem"
 case dN => k_extra "kd"
 case dH => rfl
 case dO | dI => k_extra "z"
 case dJ => rw [List.length_map]; exact JG h4'
 case dF => decide
 case dZ => rw [List.length_map,sizeLine_eq]; k_extra "o"
 k_extra "next"
 refine zD (zD ?_)
 have e : (ws.map D.str).eraseIdx (ws.length - 1) = ws.dropLast.map D.str:=by
   rw [List.dropLast_eq_take,List.map_take,List.eraseIdx_eq_take_drop_succ,List.drop_of_length_le (by simp; k_extra "o"),List.append_nil]
 simp only [List.nil_append,e] at S
 exact fin ws.dropLast (got.length - wl.length) (fun _ h => (List.dropLast_sublist _).mem h) (by simp; k_extra "o") (by simp only [xH,hlast]; rw [if_pos hw,hc]; rfl) (by k_extra "mem") (by k_extra "mem") (by k_extra "mem") (by k_extra "mem") S
theorem Qs (G : Gl B mg mb) (hl : mg "len" = none ∧ mb "len" = some (.builtin "len")) (hm : ∃ t,mg "ELLIPSIS_MARKER" = some (.str zT t)) (want got : Str)
   (h1 : want.length ≤ 1000) (h2 : got.length ≤ 1000) (h3 : 2 ≤ (zz want zT).length ∨ inS zT want = false) (h4 : (zz want zT).length ≤ 1000) (h5 : ∀ x ∈ zz want zT,x.length ≤ 1000) :
   jV prog w 0 B Z3 [Str.ofString "want",Str.ofString "got"] [.str want,.str got] (.bool (wZ want got)):=by
 obtain ⟨t,hm⟩:=hm
 intro A s M₀ env Own M s₁ R X S
 simp only [List.zip_cons_cons,List.map_cons,List.map_nil,List.zip_nil_right] at S
 k_extra "if"
 cases hc : inS zT want
 · refine' jU (r:=.bool (wZ want got)) S ?qa ?qb ?qc
   case qa => k_extra "z"
   case qb => rw [wZ,hc]; rfl
   case qc => exact fun v s' x => x
 show wpAny _ _ (execs (if false = true then _ else _) env) _ _ _
 simp only [Bool.false_eq_true,if_false]
 refine zD ?_
 have h3' : 2 ≤ (zz want zT).length:=h3.resolve_right (by simp [hc])
 have hm0 : ∀ b,M₀ b → M b:=S.more
 have hO0 : ∀ b,Own b → M b:=S.own
 refine' YB S ?nA ?nB ?nC ?nD
 case nB => k_extra "kd"
 case nC => rfl
 case nA =>
   refine' jK.meth ?S ?R ?qo ?T ?qp ?qs ?qt ?qx ?qb ?qf ?ql ?qc
   case S => k_extra "S"
   case R | qo => k_extra "z"
   case T => rfl
   case qp => k_extra "pa"
   case qs => exact F.slot_str_split
   case qt => exact F.type_str_split
   case qx => k_extra "z"
   case qb => rfl
   case qf => decide
   case ql => rfl
   case qc => exact WR.split want zT (by decide) (by rw [sizeLine_eq]; k_extra "o") (by rw [sizeLine_eq]; k_extra "o")
 clear S
 intro a s' na S
 k_extra "assert"
 refine' jJ S R [(Str.ofString "startpos",_),(Str.ofString "endpos",_)] rfl (els:=[.dat (.int 0),.dat (.int got.length)]) ?tX (by decide) ?tK rfl (by simp) ?tW ?tD
 case tX => k_extra "z"
 case tK => k_extra "kd"
 case tW => exact vJ [(Str.ofString "startpos",_),(Str.ofString "endpos",_)] (by decide)
 k_extra "next"
 k_extra "flat"
 generalize hws : zz want zT = ws at *
 obtain ⟨wf,hwf⟩ : ∃ wf,ws[0]? = some wf:=⟨ws[0],List.getElem?_eq_getElem (by k_extra "o")⟩
 have hfirst : ws.headD Str.empty = wf:=by rw [List.headD_eq_head?_getD,List.head?_eq_getElem?,hwf]; rfl
 have hwm : wf.length ≤ 1000:=h5 wf (List.mem_of_getElem? hwf)
 have hM : wZ want got = if wf.length ≠ 0 then (if 0 + wf.length ≤ got.length && Builtin.Str.subAt got wf 0 then xH got ws.tail wf.length else false) else xH got ws 0:=by
   rw [wZ,if_pos hc,hws]; simp only [hfirst]
 refine' yK S ?sA ?sB ?sC ?sD
 case sB => k_extra "kd"
 case sC => rfl
 case sA =>
   refine' Ev.item (d:=.str wf) (i:=0) (xs:=ws.map .str) ?qv ?qi (by decide) (by decide) ?qd
   case qv | qi => k_extra "z"
   case qd => rw [List.getElem?_map,show (0 : Int).toNat = 0 from rfl,hwf]; rfl
 k_extra "next"
 k_extra "if"
 by_cases hw : wf.length = 0
 · rw [show ((wf.length : Int) != 0) = false by simp [hw]]
   refine zD ?_
   rw [hM,if_neg (by simp [hw])]
   exact J4 G hl got ws 0 R h2 h4 (by k_extra "o") h5 na hO0 hm0 (S.sub (by k_extra "sub"))
 rw [show ((wf.length : Int) != 0) = true by simp [hw]]
 k_extra "if"
 cases hc2 : (decide (0 + wf.length ≤ got.length) && Builtin.Str.subAt got wf 0)
 · refine' jU (r:=.bool (wZ want got)) S ?qa ?qb ?qc
   case qa => k_extra "z"
   case qb => rw [hM,if_pos hw,hc2]; rfl
   case qc => exact fun v s' x => x
 show wpAny _ _ (execs (if true = true then _ else _) env) _ _ _
 simp only [if_true]
 k_extra "set"
 refine' j4 (pre:=[]) (i:=0) (I:=0) S ?dM ?dN ?dH ?dO ?dI ?dJ ?dF ?dZ ?dD
 case dM => k_extra "mem"
 case dN => k_extra "kd"
 case dH => rfl
 case dO | dI => k_extra "z"
 case dJ => rw [List.length_map]; exact KW (k:=0) (by k_extra "o")
 case dF => decide
 case dZ => rw [List.length_map,sizeLine_eq]; k_extra "o"
 k_extra "next"
 refine zD (zD ?_)
 have e : (ws.map D.str).eraseIdx 0 = ws.tail.map D.str:=by cases ws <;> rfl
 simp only [List.nil_append,e] at S
 rw [hM,if_pos hw,hc2]
 exact J4 G hl got ws.tail wf.length R h2 (by simp; k_extra "o") (by simp; k_extra "o") (fun x hx => h5 x (List.mem_of_mem_tail hx)) na hO0 hm0 (S.sub (by k_extra "sub"))
noncomputable abbrev X4:=(zZ flS).names
noncomputable def WV : List (PyData × PyData):=jC.map fun p => (.int p.1,.str p.2)
noncomputable def v9 (i : Int) : Str:=baseText "0x" 16 i
noncomputable def wL (f : Int) : Str:=(jC.lookup f).getD (v9 f)
theorem Zk (a b : Int) : Spec.same (.int a) (.int b) = decide (a = b):=by
 show (a == b) = decide (a = b)
 by_cases h : a = b <;> simp [h]
theorem VX (f : Int) : (Spec.lookup (.int f) WV).getD (.str (v9 f)) = .str (wL f):=by
 have : ∀ T : List (Int × Str),(Spec.lookup (.int f) (T.map fun p => (PyData.int p.1,PyData.str p.2))).getD (.str (v9 f)) = .str ((T.lookup f).getD (v9 f)):=by
  intro T
  induction T with
  | nil => rfl
  | cons p T ih =>
   simp only [List.map_cons,Spec.lookup,Zk,List.lookup]
   by_cases h : p.1 = f
   · have h' : (f == p.1) = true:=by simp [h]
     simp [h]
   · have h' : (f == p.1) = false:=by simp; exact fun e => h e.symm
     simp [h,h',ih]
 exact this jC
noncomputable def vL : Nat → Nat → Int → List Str → Option (List Str)
 | 0,_,fl,ns => if (v9 fl).length ≤ sizeLine then some (ns ++ [v9 fl]) else none
 | m + 1,i,fl,ns =>
  let f : Int:=1 * 2 ^ i
  if Builtin.bitAnd fl f != 0 then
   (if (v9 f).length ≤ sizeLine then (if Builtin.bitXor fl f != 0 then vL m (i + 1) (Builtin.bitXor fl f) (ns ++ [wL f]) else some (ns ++ [wL f])) else none)
  else vL m (i + 1) fl ns
noncomputable abbrev vX : Str:=Str.ofString ", "
theorem jH {i : Nat} {y n : Int} (h : (wp 0 n 1)[i]? = some y) : y = i:=by
 simp only [wp,List.getElem?_map] at h
 cases e : (List.range (Builtin.Range.rangeSize 0 n 1).toNat)[i]? with
 | none => rw [e] at h; cases h
 | some j =>
  rw [e] at h
  have:=List.getElem?_eq_some_iff.mp e
  obtain ⟨_,q⟩:=this
  simp at q h
  k_extra "o"
theorem Wg {K : Type} [DecidableEq K] {knd : KeyKind prog w K} {enc : K → PyData} {h h' : Heap} {d : Addr} {D : List (PyData × PyData)} (X : zR h h') (T : TabAt knd enc h d D) : TabAt knd enc h' d D:=by
 obtain ⟨lo,kvs,hd,hf⟩:=T
 exact ⟨lo,kvs,jN hd fun o e => X _ _ e,hf⟩
theorem JB {A : Around} {h : Heap} {M : Addr → Prop} {names : zJ} {env : Env} {ρ : List (Str × RV)} {μ : List (Addr × D)} (S : En prog w B names env h M ρ μ) (R : Rm A 0) {fa : Addr} {o : Expr} {apos pos : Pos} {es : List Expr} {f : Int}
  (ho : Ev prog w A h o env (fun _ u => u = .ref fa)) (T : TabAt (PySem.intKind prog w) PyData.int B fa WV) (hx : xJ prog w A h env M es [.int f,.str (v9 f)]) (hbase : attributeBase o "get" env (eval o env) = eval o env) (hfew : decide (es.length + 0 + 0 < 30) = true) (hline : (apos.endLine == pos.line) = true) :
  Ev prog w A h (.Call (.Attribute o "get" apos) es [] pos) env (PS prog w M (.str (wL f))):=by
 have T':=T
 obtain ⟨lo,kvs,hd,hf⟩:=T'
 obtain ⟨ob,es',ep,hob,hc,hd',hr⟩:=hd
 refine Ev.methO S R (ho:=ho) hob hc.1 hc.2.1 F.plainAttrs_dict F.slot_dict_get F.type_dict_get hx hbase hfew hline fun A M s E Q vs R X old rs hQ => ?_
 obtain ⟨v,u,rfl,r1,r2⟩:=rs.two_inv
 obtain ⟨t,rfl⟩:=r1.int_inv; obtain ⟨t2,rfl⟩:=r2.str_inv
 refine call_get2_tab (knd:=PySem.intKind prog w) (enc:=PyData.int) Zk (k:=f) (PySem.intKind_is prog w f t) (Wg X T) (.str _ _) fun v fv => ?_
 rw [VX] at fv
 cases fv s.heap
 exact hQ _ _ (zI s _) (.str _ _)
theorem Xa (G : Gl B mg mb) (hr : mg "range" = none ∧ mb "range" = some (.type "range")) (hh : mg "hex" = none ∧ mb "hex" = some (.builtin "hex")) {fa : Addr} (hF : mg "COMPILER_FLAG_NAMES" = some (.ref fa)) (T : TabAt (PySem.intKind prog w) PyData.int B fa WV)
  (n : Int) (res : List Str) (hres : vL 32 0 n [] = some res) (hj : yc vX res = true) :
  jV prog w 0 B flS [Str.ofString "flags"] [.int n] (.str (wW vX res)):=by
 intro A s M₀ env Own M s₁ R X S
 simp only [List.zip_cons_cons,List.map_cons,List.map_nil,List.zip_nil_right] at S
 refine' YB S ?nA ?nB ?nC ?nD
 case nB => k_extra "kd"
 case nC => rfl
 case nA => k_extra "z"
 clear S
 intro a s' na S
 have fin : ∀ (ns : List Str) {s₂ : Shared} {ρ : List (Str × RV)},ns = res → (Str.ofString "names",RV.adr a) ∈ ρ → St prog w B s (fun _ => False) M₀ X4 env (fun b => Own b ∨ b = a) (fun b => M b ∨ b = a) ρ [(a,.list (ns.map .str))] s₂ →
    wpAny (model prog w) A (execs ((zC flS).drop 2) env) (xP prog w B s (fun _ => False) M₀ X4 env (.str (wW vX res))) (fun _ _ => False) s₂:=by
  intro ns s₂ ρ e hm S
  subst e
  refine' jU (r:=.str (wW vX ns)) S ?ra ?rb ?rc
  case ra =>
    refine' Ev.meth ?S ?R ?qo ?T ?qp ?qs ?qt ?qx ?qb ?qf ?ql ?qc
    case S => k_extra "S"
    case R | qo => k_extra "z"
    case T => rfl
    case qp => k_extra "pa"
    case qs => k_extra "slot"
    case qt => k_extra "mty"
    case qx => k_extra "z"
    case qb => rfl
    case qf => decide
    case ql => rfl
    case qc => k_extra "z"
  case rb => rfl
  case rc => exact fun v s' x => x
 refine' xa (α:=Int) (σ:=Int × List Str) S R ?qv (wp 0 32 1) .int ?src (fun y => [(Str.ofString "i",.dat (.int y))]) ?asg ?fs (fun c => [(Str.ofString "flags",.dat (.int c.1)),(Str.ofString "names",.adr a)]) (fun c => [(a,.list (c.2.map .str))])
  (fun i c => vL (32 - i) i c.1 c.2 = some res ∧ c.2.length ≤ i) (fun f c _ => f = .brk ∧ c.2 = res) (n,[]) ?hp0 ?rho rfl ?off ?turn ?done ?exit
 case qv => k_extra "z"
 case src => exact .rng rfl
 case asg => exact fun y _ => wD.name (by k_extra "kd")
 case fs => k_extra "fs"
 case hp0 => exact ⟨hres,Nat.le_refl _⟩
 case rho => k_extra "sub"
 case off => intro c y; k_extra "kd"
 case turn =>
  clear S
  intro i y c M' s₁ hy hP hMM S
  obtain rfl:=jH hy
  have hi : i < 32:=by
    have:=(List.getElem?_eq_some_iff.mp hy).1
    rw [zr] at this
    exact this
  obtain ⟨fl,ns⟩:=c
  obtain ⟨hP,hlen⟩:=hP
  rw [show 32 - i = (31 - i) + 1 from Nat.succ_sub (m:=31) (Nat.le_of_lt_succ hi),vL] at hP
  dsimp only at hP hlen S
  k_extra "set"
  rw [show (i : Int).toNat = i from Int.toNat_natCast i] at S
  k_extra "if"
  cases hb : (Builtin.bitAnd fl (1 * 2 ^ i) != 0)
  · show wpAny _ _ (execs (if false = true then _ else _) env) _ _ _
    simp only [Bool.false_eq_true,if_false]
    refine zD (zD ?_)
    refine ⟨(fl,ns),_,_,S.sub ?_, ?_⟩
    · k_extra "sub"
    · rw [hb] at hP
      simp only [Bool.false_eq_true,if_false] at hP
      exact ⟨by rw [show 32 - (i + 1) = 31 - i from Nat.add_sub_add_right 31 1 i]; exact hP,by simp; k_extra "o"⟩
  rw [hb] at hP
  simp only [if_true] at hP
  have hz : (v9 (1 * 2 ^ i)).length ≤ sizeLine:=by
    by_cases hz : (v9 (1 * 2 ^ i)).length ≤ sizeLine
    · exact hz
    · rw [if_neg hz] at hP; cases hP
  rw [if_pos hz] at hP
  show wpAny _ _ (execs (if true = true then _ else _) env) _ _ _
  simp only [if_true]
  refine' vi (pre:=[]) (d:=.list (ns.map .str)) (d':=.list (ns.map .str ++ [.str (wL (1 * 2 ^ i))])) (ds:=[.str (wL (1 * 2 ^ i))]) S R ?stM ?stN ?stH ?stO ?stT ?stP ?stL ?stY ?stX ?stF ?stE ?stC ?stD
  case stM => k_extra "mem"
  case stN => k_extra "kd"
  case stH => rfl
  case stO => k_extra "z"
  case stT => rfl
  case stP => k_extra "pa"
  case stL => k_extra "slot"
  case stY => k_extra "mty"
  case stF => decide
  case stE => rfl
  case stX =>
    refine' ZU.cons ?ea ZU.nil ?eb
    case eb => intro _; rfl
    case ea =>
      refine' JB S.e R ?fo T ?fx ?fb ?ff ?fl
      case fo => k_extra "z"
      case fb => rfl
      case ff => decide
      case fl => rfl
      case fx => k_extra "z"
  case stC => exact xI.append _ _ (by rw [List.length_map,sizeLine_eq]; k_extra "o")
  k_extra "next"
  have e3 : ns.map D.str ++ [D.str (wL (1 * 2 ^ i))] = (ns ++ [wL (1 * 2 ^ i)]).map D.str:=by simp
  simp only [List.nil_append,e3] at S
  k_extra "aug"
  cases hx : (Builtin.bitXor fl (1 * 2 ^ i) != 0)
  · rw [hx] at hP
    simp only [Bool.false_eq_true,if_false,Option.some.injEq] at hP
    k_extra "if"
    rw [hx]
    show wpAny _ _ (execs (if (!false) = true then _ else _) env) _ _ _
    simp only [Bool.not_false,if_true]
    refine wpAny_execs_cons (wpAny_Break ?_)
    refine ⟨(Builtin.bitXor fl (1 * 2 ^ i),ns ++ [wL (1 * 2 ^ i)]),_,_,S.sub ?_, ?_⟩
    · k_extra "sub"
    · exact ⟨rfl,hP⟩
  · rw [hx] at hP
    simp only [if_true] at hP
    k_extra "if"
    rw [hx]
    show wpAny _ _ (execs (if (!true) = true then _ else _) env) _ _ _
    simp only [Bool.not_true,Bool.false_eq_true,if_false]
    refine zD (zD (zD ?_))
    refine ⟨(Builtin.bitXor fl (1 * 2 ^ i),ns ++ [wL (1 * 2 ^ i)]),_,_,S.sub ?_, ?_⟩
    · k_extra "sub"
    · exact ⟨by rw [show 32 - (i + 1) = 31 - i from Nat.add_sub_add_right 31 1 i]; exact hP,by simp; k_extra "o"⟩
 case done =>
  clear S
  intro c s' hP S
  obtain ⟨fl,ns⟩:=c
  obtain ⟨hP,hlen⟩:=hP
  have hl32 : (wp 0 32 1).length = 32:=by rw [zr]; rfl
  rw [hl32,show 32 - 32 = 0 from rfl,vL] at hP
  rw [hl32] at hlen
  dsimp only at hP hlen S
  by_cases hz : (v9 fl).length ≤ sizeLine
  · rw [if_pos hz,Option.some.injEq] at hP
    refine' vi (pre:=[]) (d:=.list (ns.map .str)) (d':=.list (ns.map .str ++ [.str (v9 fl)])) (ds:=[.str (v9 fl)]) S R ?sqM ?sqN ?sqH ?sqO ?sqT ?sqP ?sqL ?sqY ?sqX ?sqF ?sqE ?sqC ?sqD
    case sqM => k_extra "mem"
    case sqN => k_extra "kd"
    case sqH => rfl
    case sqO => k_extra "z"
    case sqT => rfl
    case sqP => k_extra "pa"
    case sqL => k_extra "slot"
    case sqY => k_extra "mty"
    case sqF => decide
    case sqE => rfl
    case sqX => k_extra "z"
    case sqC => exact xI.append _ _ (by rw [List.length_map,sizeLine_eq]; k_extra "o")
    intro s' S'
    have e3 : ns.map D.str ++ [D.str (v9 fl)] = (ns ++ [v9 fl]).map D.str:=by simp
    simp only [List.nil_append,e3] at S'
    refine zD ?_
    exact fin (ns ++ [v9 fl]) hP (by k_extra "mem") S'
  · rw [if_neg hz] at hP; cases hP
 case exit =>
  rintro f c s' ⟨rfl,e⟩ S'
  exact fin c.2 e (by k_extra "mem") S'
noncomputable abbrev Zr:=(zZ pvS).names
noncomputable def wo (b : Array UInt8) : Nat → Int → Int → Nat → Option (Int × Nat)
 | 0,_,_,_ => none
 | n + 1,c,v,i => if (Builtin.bitAnd c 64 != 0) = true then (match b[i]? with
  | none => none
  | some o => wo b n (o.toNat : Int) (Builtin.bitOr (v * 2 ^ (6 : Int).toNat) (Builtin.bitAnd (o.toNat : Int) 63)) (i + 1)) else some (v,i)
noncomputable def wB (b : Array UInt8) (i : Nat) : Option (Int × Nat):=match b[i]? with
 | none => none
 | some o => wo b (b.size + 1 - (i + 1)) (o.toNat : Int) (Builtin.bitAnd (o.toNat : Int) 63) (i + 1)
theorem ym (b : Array UInt8) (n : Nat) (c v : Int) (i : Nat) : wo b (n + 1) c v i = if (Builtin.bitAnd c 64 != 0) = true then (match b[i]? with
 | none => none
 | some o => wo b n (o.toNat : Int) (Builtin.bitOr (v * 2 ^ (6 : Int).toNat) (Builtin.bitAnd (o.toNat : Int) 63)) (i + 1)) else some (v,i):=rfl
theorem Qi (x : Int) : 0 ≤ Builtin.bitAnd x 63 ∧ Builtin.bitAnd x 63 < 64:=by
 have:=bitAnd_range x (y:=63) (by decide)
 k_extra "o"
theorem jy {a b : Nat} (h : a ≤ b) : (2 : Int) ^ (6 * a) ≤ 2 ^ (6 * b):=by
 have : (2 : Nat) ^ (6 * a) ≤ 2 ^ (6 * b):=Nat.pow_le_pow_right (by decide) (by k_extra "o")
 exact_mod_cast this
theorem VC {a : Nat} (h : 1 ≤ a) : (64 : Int) ≤ 2 ^ (6 * a):=by
 have:=jy h
 simpa using this
theorem Jd {v o : Int} {i : Nat} (h0 : 0 ≤ v) (h1 : v < 2 ^ (6 * i)) (ho : 0 ≤ o ∧ o < 64) : 0 ≤ Builtin.bitOr (v * 2 ^ (6 : Int).toNat) o ∧ Builtin.bitOr (v * 2 ^ (6 : Int).toNat) o < 2 ^ (6 * (i + 1)):=by
 have r:=bitAnd_range (v * 2 ^ (6 : Int).toNat) ho.1
 rw [bitOr_and]
 generalize Builtin.bitAnd (v * 2 ^ (6 : Int).toNat) o = z at r ⊢
 rw [show (v * 2 ^ (6 : Int).toNat) = v * 64 by rfl,Nat.mul_add,Int.pow_add]
 have : (2 : Int) ^ (6 * 1) = 64:=by decide
 rw [this]
 constructor
 · k_extra "o"
 · have : v * 64 + o - z < (v + 1) * 64:=by k_extra "o"
   exact Int.lt_of_lt_of_le this (Int.mul_le_mul_of_nonneg_right (by k_extra "o") (by decide))
theorem YM.shl6 {A : Around} {M : Addr → Prop} (a : Int) (ha : a.natAbs < 2 ^ 6000) : YM prog w A M .LShift (.int a) (.int 6) (.int (a * 2 ^ (6 : Int).toNat)):=by
 intro s E Q x y rx ry hQ
 obtain ⟨t,rfl⟩:=rx.int_inv; obtain ⟨u,rfl⟩:=ry.int_inv
 have hb : Builtin.Int.intBits a ≤ 6000:=intBits_le_iff.mpr ha
 exact PyProof.Rows.ilshift_int (by decide) (by k_extra "o") (hQ _ _ (zI s _) (.int _ _))
structure Jm where
 c : Int
 v : Int
 i : Nat
theorem KU (G : Gl B mg mb) (hnx : mg "next" = none ∧ mb "next" = some (.builtin "next")) {A : Around} {s s₁ : Shared} {M₀ Own M : Addr → Prop} {env : Env} {it : Addr} {b : Array UInt8} {i : Nat} {E : Value → Shared → Prop}
  (R : Rm A 0) (hsmall : b.size ≤ 1000) (S : St prog w B s (fun a => a = it) M₀ Zr env Own M [(Str.ofString "iterator",.adr it)] [(it,.bit b i)] s₁) (hPO : PassesOwn (model prog w) A env E)
  {Q : Flow → Shared → Prop}
  (hQ : ∀ v j x s' ρ',wB b i = some (v,j) → St prog w B s (fun a => a = it) M₀ Zr env Own M ρ' [(it,.bit b j)] s' → Rp prog w s'.heap M x (.int v) → Q (.ret x) s')
  (hX : ∀ s' ρ' j h₁ h' e,wB b i = none → St prog w B s (fun a => a = it) M₀ Zr env Own M ρ' [(it,.bit b j)] s' → Heap.SameBut it s'.heap h₁ → (∃ o,h₁.get? it = some o) → Heap.NewExc h₁ h' e "StopIteration" → E (.ref e) { s' with heap:=h' }) :
  wpAny (model prog w) A (execs (zC pvS) env) Q E s₁:=by
 have hOit : Own it:=S.own₀ it rfl
 have hE0:=S.e
 refine' WH (y:=Str.ofString "iterator") G hnx S R.hh ?m1 ?m2 ?m3 ?m4 hOit ?m5 ?m6 ?m7
 case m1 => k_extra "mem"
 case m2 | m3 | m4 => k_extra "kd"
 case m5 => rfl
 case m7 =>
  intro s₂ h₁ h' e hb S₂ sb hex hx
  exact hX s₂ _ i h₁ h' e (by rw [wB,hb]) S₂ sb hex hx
 case m6 =>
  clear hE0
  clear S
  intro c s' hc S
  have hpv : wB b i = wo b (b.size + 1 - (i + 1)) (c.toNat : Int) (Builtin.bitAnd (c.toNat : Int) 63) (i + 1):=by rw [wB,hc]
  have hib : i < b.size:=(Array.getElem?_eq_some_iff.mp hc).1
  show wpAny _ _ (execs (_ :: _ :: _ :: []) env) _ _ _
  k_extra "set"
  refine' ZT (σ:=Jm) S hPO (fun p => [(Str.ofString "val",.dat (.int p.v)),(Str.ofString "b",.dat (.int p.c)),(Str.ofString "iterator",.adr it)]) (fun p => [(it,.bit b p.i)])
   (fun p => wB b i = wo b (b.size + 1 - p.i) p.c p.v p.i ∧ p.i ≤ b.size ∧ 0 ≤ p.v ∧ p.v < 2 ^ (6 * p.i)) (fun p => b.size + 1 - p.i) (fun p => Builtin.bitAnd p.c 64 != 0) ⟨(c.toNat : Int),Builtin.bitAnd (c.toNat : Int) 63,i + 1⟩ ?w1 ?w2 ?w3 ?w4 ?w5 ?w6
  case w1 => exact ⟨hpv,hib,(Qi (c.toNat : Int)).1,Int.lt_of_lt_of_le (Qi (c.toNat : Int)).2 (VC (Nat.le_add_left 1 i))⟩
  case w2 => k_extra "sub"
  case w3 => rfl
  case w4 =>
   clear S
   intro p s₂ _ S
   k_extra "z"
  case w5 =>
   clear S
   intro p s₂ hP ht S
   obtain ⟨h1,h2,h3⟩:=hP
   have hn : b.size + 1 - p.i = (b.size - p.i) + 1:=Nat.succ_sub h2
   have hpow : p.v.natAbs < 2 ^ 6000:=by
    have q : (2 : Int) ^ (6 * p.i) ≤ 2 ^ (6 * 1000):=jy (by k_extra "o")
    have e : ((2 ^ 6000 : Nat) : Int) = 2 ^ (6 * 1000):=by rw [Int.natCast_pow]; rfl
    have:=h3.2
    generalize (2 : Nat) ^ 6000 = z at e ⊢
    generalize (2 : Int) ^ (6 * 1000) = z' at e q
    generalize (2 : Int) ^ (6 * p.i) = z'' at q this
    exact VB h3.1 e q this
   rw [hn,ym,if_pos ht] at h1
   refine' Vj S ?aM ?aA ?aB (YM.shl6 p.v hpow) ?aD
   case aM => k_extra "mem"
   case aB => k_extra "kd"
   case aA => k_extra "z"
   k_extra "next"
   show wpAny _ _ (execs (_ :: _ :: []) env) _ _ _
   refine' WH (y:=Str.ofString "iterator") G hnx S R.hh ?m1 ?m2 ?m3 ?m4 hOit ?m5 ?m6 ?m7
   case m1 => k_extra "mem"
   case m2 | m3 | m4 => k_extra "kd"
   case m5 => rfl
   case m7 =>
    intro s₂ h₁ h' e hb S₂ sb hex hx
    rw [hb] at h1
    exact hX s₂ _ _ h₁ h' e h1 S₂ sb hex hx
   case m6 =>
    clear S
    intro o s₃ ho S
    rw [ho] at h1
    have hib : p.i < b.size:=(Array.getElem?_eq_some_iff.mp ho).1
    dsimp only at h1
    k_extra "aug"
    refine zD ⟨rfl,⟨(o.toNat : Int),Builtin.bitOr (p.v * 2 ^ (6 : Int).toNat) (Builtin.bitAnd (o.toNat : Int) 63),p.i + 1⟩,⟨?q1,hib, ?q3⟩, ?q4,S.sub ?q5⟩
    case q5 => k_extra "sub"
    case q1 => rw [h1,Nat.add_sub_add_right]
    case q3 => exact Jd h3.1 h3.2 (Qi _)
    case q4 => dsimp only; rw [hn,Nat.add_sub_add_right]; exact Nat.lt_succ_self _
  case w6 =>
   clear S
   intro p s₂ hP ht S
   obtain ⟨h1,h2,h3⟩:=hP
   rw [Nat.succ_sub h2,ym,if_neg (by rw [ht]; decide)] at h1
   refine' xF (d:=.int p.v) S ?ra ?rb
   case ra => k_extra "z"
   case rb => exact fun v s' S' r => hQ p.v p.i v s' _ h1 S' r
noncomputable abbrev js:=(zZ rdS).names
theorem Jo (G : Gl B mg mb) (hnx : mg "next" = none ∧ mb "next" = some (.builtin "next")) {f : Addr} {fd : FuncData} (H : zi B mg "_parse_varint" pvS f fd) (hb : ∀ v s,BindsTo s fd ⟨[v],[]⟩ [(Str.ofString "iterator",v)])
   {A : Around} {s : Shared} {M₁ : Addr → Prop} {it : Addr} {b : Array UInt8} {i : Nat} {l : List Env} {Q E : Value → Shared → Prop} (R : Rm A 1) (hsmall : b.size ≤ 1000) (X : zR B s.heap) (hold : ∀ a,M₁ a → ∃ o,s.heap.get? a = some o) (hm : M₁ it) (hBi : B.get? it = none) {t : Tok} (hg : s.heap.get? it = some (qW b t i))
   (hfr : A.frames = some l) (ok : yl s.heap l)
   (hQ : ∀ v j x s',wB b i = some (v,j) → Yb [it] s s' → (∃ t,s'.heap.get? it = some (qW b t j)) → (∃ tt,x = .int v tt) → Q x s')
   (hX : ∀ h₁ h' tk e l₁,wB b i = none → (∀ a o,a ≠ it → s.heap.get? a = some o → h₁.get? a = some o) → (∃ o,h₁.get? it = some o) → (∀ a ∈ xm l₁,a ∈ xm l ∨ s.heap.get? a = none) → it ∉ xm l₁ → WN h₁ l₁ l e "StopIteration" h' → E (.ref e) { s with heap:=h',toks:=tk }) :
   wpAny (model prog w) A (PySem.call (.ref f) [.ref it]) Q E s:=by
 obtain ⟨o,ho,hd'⟩:=H.get
 have hfl : ∀ a ∈ xm l,a ≠ it:=fun a ha q => by
   obtain ⟨o,e,n⟩:=ok.frame ha
   rw [q,hg] at e; cases e; exact n _ rfl
 refine wpAny_call (ja (M₀:=M₁) (Own₀:=fun a => a = it) (B:=B) (μ₀:=[(it,.bit b i)]) (ρ₀:=[(Str.ofString "iterator",.adr it)]) H.ok R (X f o ho) hd' G.lim X (ze H.code X) H.body (hb (.ref it) s) (by simp) ?_ hold (fun a z => ?_) (fun x c e => by rw [H.clo] at e; cases e) ?_ (fun a d hm => ?_) (by simp) ?_)
 · rw [H.scope]; k_extra "kd"
 · subst z; exact ⟨hm,hBi⟩
 · intro x r hm
   cases List.mem_singleton.mp hm
   exact .inl ⟨.ref it,.head _,rfl⟩
 · cases List.mem_singleton.mp hm; exact .itr hg
 · intro env Own M s₁ hL R' hO hMM S
   rw [H.scope] at S
   obtain ⟨L,rfl⟩:=hL
   refine KU G hnx R' hsmall S PassesOwn.leaving ?_ ?_
   · intro v j x s' ρ' hv S' rx
     obtain ⟨h',tk,e⟩:=S'.same
     obtain ⟨tt,rfl⟩:=rx.int_inv
     refine hQ v j _ s' hv ⟨h',tk,e,fun a o n q => ?_⟩ ?_ ⟨_,rfl⟩
     · have:=S'.keep a o (by simpa using n) q
       rw [e] at this; exact this
     · have:=S'.e.mem it _ (.head _)
       cases this with | itr p => exact ⟨_,p⟩
   · intro s' ρ' j h₁ h' e hv S' sb hex hx
     have hsep : (zW fd L f).locals ∉ [it]:=fun z => S'.sep it _ (.head _) (.inl (List.mem_singleton.mp z).symm)
     obtain ⟨ok1,kp⟩:=S'.raised (wr:=[it]) (l:=l) rfl (fun a z => by simp [z]) ok (fun a ha z => hfl a ha z) (h₁:=h₁) (fun a o n e => (sb.2 a (by simpa using n)).trans e) hsep (fun a ha => by simpa using hfl a ha)
     refine Va (l:=l) (L:=L) (Around.frames_deeper hfr) rfl ok1 hx fun h2 F => ?_
     obtain ⟨h0,tk,e0⟩:=S'.same
     have efr : xm (zW fd L f :: l) = L :: xm l:=rfl
     have:=hX h₁ h2 tk e (zW fd L f :: l) hv (fun a o n q => kp a o (by simpa using n) q) hex (fun a ha => ?_) (fun z => ?_) F
     · rw [e0]; exact this
     · rw [efr] at ha
       rcases List.mem_cons.mp ha with rfl | ha
       · refine .inr ?_
         rcases S'.fresh _ (S'.fr _ (.inl rfl)) with z | z
         · exact absurd (List.mem_singleton.mpr z) hsep
         · exact z
       · exact .inl ha
     · rw [efr] at z
       rcases List.mem_cons.mp z with z | z
       · exact hsep (List.mem_singleton.mpr z.symm)
       · exact hfl _ z rfl
theorem jz (b : Array UInt8) : ∀ (n : Nat) (c v : Int) (i : Nat) (v' : Int) (j : Nat),i ≤ b.size → wo b n c v i = some (v',j) → i ≤ j ∧ j ≤ b.size
 | 0,_,_,_,_,_,_,h => by cases h
 | n + 1,c,v,i,v',j,hi,h => by
  rw [ym] at h
  split at h
  · cases hb : b[i]? with
    | none => rw [hb] at h; cases h
    | some o =>
     rw [hb] at h
     have hlt:=(Array.getElem?_eq_some_iff.mp hb).1
     have:=jz b n _ _ _ _ _ (Nat.succ_le_of_lt hlt) h
     k_extra "o"
  · cases h; exact ⟨Nat.le_refl _,hi⟩
theorem YR {b : Array UInt8} {i : Nat} {v : Int} {j : Nat} (h : wB b i = some (v,j)) : i < j ∧ j ≤ b.size:=by
 rw [wB] at h
 cases hb : b[i]? with
 | none => rw [hb] at h; cases h
 | some o =>
  rw [hb] at h
  have hlt:=(Array.getElem?_eq_some_iff.mp hb).1
  have:=jz b _ _ _ _ _ _ (Nat.succ_le_of_lt hlt) h
  k_extra "o"
noncomputable def jL (b : Array UInt8) : Nat → Nat → List Int
 | 0,_ => []
 | n + 1,i => match wB b i with
  | none => []
  | some (v,j) => v :: jL b n j
theorem W3 (b : Array UInt8) : ∀ (n m i : Nat),b.size < n + i → b.size < m + i → jL b n i = jL b m i:=by
 have big : ∀ (n i : Nat),b.size ≤ i → jL b n i = []:=fun n i h => by
  cases n with
  | zero => rfl
  | succ n => rw [jL,wB,Array.getElem?_eq_none h]
 intro n
 induction n with
 | zero => intro m i h1 h2; rw [big m i (by k_extra "o")]; rfl
 | succ n ih =>
  intro m i h1 h2
  cases m with
  | zero => rw [big (n + 1) i (by k_extra "o")]; rfl
  | succ m =>
   simp only [jL]
   cases hp : wB b i with
   | none => rfl
   | some p =>
    obtain ⟨v,j⟩:=p
    have:=YR hp
    simp only
    rw [ih m j (by k_extra "o") (by k_extra "o")]
noncomputable def vm (b : Array UInt8) : List Int:=jL b (b.size + 1) 0
theorem jK.iterB {names : zJ} {env : Env} {ρ : List (Str × RV)} {μ : List (Addr × D)} {A : Around} {h : Heap} {M : Addr → Prop} (G : Gl B mg mb) (hit : mg "iter" = none ∧ mb "iter" = some (.builtin "iter")) (hg : names.lookup (Str.ofString "iter") = some .globalImplicit) (S : En prog w B names env h M ρ μ) {x : Str} {fp xp p : Pos} {b : Array UInt8}
  (hx : (x,RV.dat (.bytes b)) ∈ ρ) (hd : (x == ("__debug__" : Str)) = false) : jK prog w A h (.Call (.Name (Str.ofString "iter") fp) [.Name x xp] [] p) env M (.bit b 0):=by
 intro s E Q kx hQ
 refine xj (f:=.builtin "iter") (rs:=[.dat (.bytes b)]) (S.ext kx) (Ev.glob G (S.ext kx) hg (.inr hit) (by decide)) (.inl fun _ e => by cases e) (.cons (Ev.var (S.ext kx) hx hd) .nil fun _ => rfl) fun vs s₁ k₁ rs => ?_
 refine zP.use1 rs fun v r => ?_
 obtain ⟨t,rfl⟩:=Rp.bytes_inv r
 refine jo (hQ _ _ (zA k₁ (zQ s₁ _ s₁.toks)) (yj k₁ (zS _)) (.itr (t:=t) (Heap.get?_push_size _ rfl)))
structure JT where
 told : List Int
 i : Nat
theorem Wm (G : Gl B mg mb) (hnx : mg "next" = none ∧ mb "next" = some (.builtin "next")) (hit : mg "iter" = none ∧ mb "iter" = some (.builtin "iter")) (hsi : mg "StopIteration" = none ∧ mb "StopIteration" = some (.type "StopIteration"))
   {fp : Addr} {fpd : FuncData} (HP : zi B mg "_parse_varint" pvS fp fpd) (hbp : ∀ v s,BindsTo s fpd ⟨[v],[]⟩ [(Str.ofString "iterator",v)])
   {f : Addr} {fd : FuncData} (H : zi B mg "_law_read" rdS f fd) (hb : ∀ v s,BindsTo s fd ⟨[v],[]⟩ [(Str.ofString "octets",v)])
   {A : Around} {s : Shared} {M₁ : Addr → Prop} {b : Array UInt8} {va : Value} {l : List Env} {Q E : Value → Shared → Prop} (R : Rm A 3) (hsmall : b.size ≤ 1000) (X : zR B s.heap) (hold : ∀ a,M₁ a → ∃ o,s.heap.get? a = some o) (ra : Rp prog w s.heap M₁ va (.bytes b))
   (hfr : A.frames = some l) (ok : yl s.heap l) (hfB : ∀ a ∈ xm l,B.get? a = none)
   (hQ : ∀ v s',(∃ h' tk,s' = { s with heap:=h',toks:=tk }) → Zy l s.heap s'.heap → Rp prog w s'.heap M₁ v (.list ((vm b).map .int)) → Q v s') :
   wpAny (model prog w) A (PySem.call (.ref f) [va]) Q E s:=by
 obtain ⟨o,ho,hd'⟩:=H.get
 refine wpAny_call (ja (M₀:=M₁) (Own₀:=fun a => False) (B:=B) (μ₀:=[]) (ρ₀:=[(Str.ofString "octets",.dat (.bytes b))]) H.ok R (X f o ho) hd' G.lim X (ze H.code X) H.body (hb va s) (by simp) ?_ hold (fun a z => z.elim) (fun x c e => by rw [H.clo] at e; cases e) ?_ (fun a d hm => by cases hm) (by simp) ?_)
 · rw [H.scope]; k_extra "kd"
 · intro x r hm
   cases List.mem_singleton.mp hm
   exact .inl ⟨va,.head _,ra⟩
 · intro env Own M s₁ hL R' hO hMM S
   rw [H.scope] at S
   obtain ⟨L,rfl⟩:=hL
   have R0 : Rm (A.deeper (zW fd L f)) 0:=R'.le (Nat.zero_le _)
   have hmore:=S.more
   refine' jJ (els:=[.new (.bit b 0),.new (.list [])]) S R0 [(Str.ofString "tape",_),(Str.ofString "told",_)] rfl ?tx (by decide) (by k_extra "kd") rfl (by simp) (vJ _ (by rfl)) ?tk
   case tx =>
    refine' XI.cons (d:=.new (.bit b 0)) ?e1 (XI.cons (d:=.new (.list [])) ?e2 .nil (fun _ => rfl)) (fun _ => rfl)
    case e1 =>
     intro h M μ hE
     refine' jK.iterB G hit ?i1 hE ?i2 ?i3
     case i1 => k_extra "kd"
     case i2 => k_extra "mem"
     case i3 => k_extra "kd"
    case e2 =>
     intro h M μ hE
     k_extra "z"
   clear S
   intro tp htp tl htl s' S
   k_extra "flat"
   have hne : tp ≠ tl:=fun q => htl (.inr q.symm)
   have htlM : ¬ M₁ tl:=fun z => htl (.inl (hmore tl z))
   refine wpAny_execs_cons (wpAny_Try_except ?_)
   show wpAny _ _ (execs (_ :: []) _) _ _ _
   refine' ZT (σ:=JT) S PassesOwn.looking (fun c => [(Str.ofString "tape",.adr tp),(Str.ofString "told",.adr tl)]) (fun c => [(tl,.list (c.told.map .int)),(tp,.bit b c.i)])
    (fun c => vm b = c.told ++ jL b (b.size + 1 - c.i) c.i ∧ c.i ≤ b.size ∧ c.told.length ≤ c.i) (fun c => b.size - c.i) (fun _ => true) ⟨[],0⟩ ?w1 ?w2 ?w3 ?w4 ?w5 ?w6
   case w1 => exact ⟨rfl,Nat.zero_le _,Nat.le_refl _⟩
   case w2 => k_extra "sub"
   case w3 => rfl
   case w4 =>
    clear S
    intro c s₂ _ S
    exact Tv.plain (M:=fun _ => False) (d:=.bool true) (Ev.rd (Ev.const_bool _ _ _)) (yq.bool _) rfl
   case w6 => intro c s' _ h _; cases h
   case w5 =>
    clear S
    intro c s₂ hP _ S
    obtain ⟨h1,h2,h3⟩:=hP
    show wpAny _ _ (execs (_ :: []) _) _ _ _
    have okf : ∀ {s₃ : Shared},St prog w B s (fun a => False) M₁ js (zW fd L f) (fun b => (Own b ∨ b = tp) ∨ b = tl) (fun b => (M b ∨ b = tp) ∨ b = tl) [(Str.ofString "tape",.adr tp),(Str.ofString "told",.adr tl)] [(tl,.list (c.told.map .int)),(tp,.bit b c.i)] s₃ → yl s₃.heap (zW fd L f :: l):=by
     intro s₃ S en he
     rcases List.mem_cons.mp he with rfl | he
     · refine ⟨by rw [S.e.n.fn]; decide,L, ?_⟩
       obtain ⟨m,o,es,ep,e,hd,_⟩:=S.f.ns
       exact ⟨o,rfl,e,fun vs z => by rw [hd] at z; cases z⟩
     · obtain ⟨g1,L',o,g2,g3,g4⟩:=ok en he
       exact ⟨g1,L',o,g2,S.keep _ _ (fun z => z) g3,g4⟩
    have ot : (fun b => (Own b ∨ b = tp) ∨ b = tl) tp:=.inl (.inr rfl)
    have ol : (fun b => (Own b ∨ b = tp) ∨ b = tl) tl:=.inr rfl
    have go : ∀ (E' Q' : Value → Shared → Prop) s₃,St prog w B s (fun a => False) M₁ js (zW fd L f) (fun b => (Own b ∨ b = tp) ∨ b = tl) (fun b => (M b ∨ b = tp) ∨ b = tl) [(Str.ofString "tape",.adr tp),(Str.ofString "told",.adr tl)] [(tl,.list (c.told.map .int)),(tp,.bit b c.i)] s₃ →
       (∀ v j x s',wB b c.i = some (v,j) → St prog w B s (fun a => False) M₁ js (zW fd L f) (fun b => (Own b ∨ b = tp) ∨ b = tl) (fun b => (M b ∨ b = tp) ∨ b = tl) [(Str.ofString "tape",.adr tp),(Str.ofString "told",.adr tl)] ([(tl,.list (c.told.map .int))] ++ (tp,.bit b j) :: []) s' → Rp prog w s'.heap (fun b => (M b ∨ b = tp) ∨ b = tl) x (.int v) → Q' x s') →
       (∀ s₄ h₁ h' tk e l₁,wB b c.i = none → St prog w B s (fun a => False) M₁ js (zW fd L f) (fun b => (Own b ∨ b = tp) ∨ b = tl) (fun b => (M b ∨ b = tp) ∨ b = tl) [(Str.ofString "tape",.adr tp),(Str.ofString "told",.adr tl)] [(tl,.list (c.told.map .int)),(tp,.bit b c.i)] s₄ → (∀ a o,a ≠ tp → s₄.heap.get? a = some o → h₁.get? a = some o) → (∀ a ∈ xm l₁,a ∈ xm (zW fd L f :: l) ∨ s₄.heap.get? a = none) → WN h₁ l₁ (zW fd L f :: l) e "StopIteration" h' → E' (.ref e) { s₄ with heap:=h',toks:=tk }) →
       ∀ fp' tp' p',wpAny (model prog w) (A.deeper (zW fd L f)) (eval (.Call (.Name (Str.ofString "_parse_varint") fp') [.Name (Str.ofString "tape") tp'] [] p') (zW fd L f)) Q' E' s₃:=by
     intro E' Q' s₃ S hq hx fp' tp' p'
     refine' xj (f:=.ref fp) (rs:=[.adr tp]) S.e ?gf (HP.keepy) ?gx ?gq
     case gf => k_extra "z"
     case gx =>
       refine .cons (Ev.var S.e ?x1 ?x2) .nil fun _ => rfl
       case x1 => k_extra "mem"
       case x2 => k_extra "kd"
     case gq =>
       intro vs s₄ k₄ rs
       have S₄:=S.step k₄
       refine zP.use1 rs fun v1 r1 => ?_
       have r1 : v1 = .ref tp:=r1
       subst r1
       obtain ⟨t,ht⟩ : ∃ t,s₄.heap.get? tp = some (qW b t c.i):=by
         have:=S₄.e.mem tp _ yo
         cases this with | itr p => exact ⟨_,p⟩
       refine Jo (M₁:=fun b => (M b ∨ b = tp) ∨ b = tl) (l:=zW fd L f :: l) G hnx HP hbp (R'.le (by k_extra "o")) hsmall S₄.e.base S₄.e.old (.inl (.inr rfl)) (S₄.base tp ot) ht (Around.frames_deeper hfr) (okf S₄) ?pq ?px
       case pq =>
         intro v j x s' hv ef hg hx'
         obtain ⟨tt,rfl⟩:=hx'
         obtain ⟨t',hg⟩:=hg
         obtain ⟨h',tk,rfl,kk⟩:=ef
         exact hq v j _ _ hv (S₄.effect1 (pre:=[(tl,.list (c.told.map .int))]) (post:=[]) rfl ot (fun a o n e => kk a o (by simpa using n) e) (.itr hg)) (.int _ _)
       case px =>
         intro h₁ h' tk e l₁ hv kp hex hfr' hn F
         exact hx s₄ h₁ h' tk e l₁ hv S₄ kp hfr' F
    cases hpv : wB b c.i with
    | some p =>
     obtain ⟨v,j⟩:=p
     refine' Wd True (d1:=.list (c.told.map .int)) (dd:=.int v) (pre:=[]) (post:=[(tp,.bit b j)]) S R0 ?m1 ?m2 (.head _) ol rfl ?m3 ?m4 ?m5 ?m6 ?m7 ?m8 (xI.append _ _ ?m9) ?m10
     case m1 => k_extra "mem"
     case m2 => k_extra "kd"
     case m3 => k_extra "pa"
     case m4 => k_extra "slot"
     case m5 => k_extra "mty"
     case m6 => exact fun _ => rfl
     case m7 => rfl
     case m8 =>
       intro Q' s₃ S₃ hQ'
       refine go _ _ s₃ S₃ ?_ ?_ _ _ _
       · intro v' j' x s' e S' r
         rw [hpv] at e; cases e
         exact hQ' x s' trivial S' r
       · intro s₄ h₁ h' tk e l₁ hv
         rw [hpv] at hv; cases hv
     case m9 => simp; rw [sizeLine_eq]; k_extra "o"
     case m10 =>
       clear S
       intro s₃ _ S
       rw [List.nil_append,show (c.told.map D.int ++ [D.int v]) = (c.told ++ [v]).map D.int by simp] at S
       have ha:=YR hpv
       refine zD ⟨rfl,⟨c.told ++ [v],j⟩,⟨?q1,ha.2, ?q3⟩, ?q4,S⟩
       case q1 =>
         rw [h1,Nat.succ_sub h2,jL,hpv]
         simp only [List.append_assoc,List.singleton_append]
         rw [W3 b (b.size - c.i) (b.size + 1 - j) j (by k_extra "o") (by rw [Nat.sub_add_cancel (Nat.le_succ_of_le ha.2)]; exact Nat.lt_succ_self _)]
       case q3 => simp; k_extra "o"
       case q4 => exact Nat.sub_lt_sub_left (Nat.lt_of_lt_of_le ha.1 ha.2) ha.1
    | none =>
     have hall : vm b = c.told:=by
       rw [h1,Nat.succ_sub h2,jL,hpv]; simp
     refine' Wd False (d1:=.list (c.told.map .int)) (dd:=.int 0) (d':=.list (c.told.map .int ++ [.int 0])) (pre:=[]) (post:=[(tp,.bit b c.i)]) S R0 ?m1 ?m2 (.head _) ol rfl ?m3 ?m4 ?m5 ?m6 ?m7 ?m8 (xI.append _ _ ?m9) ?m10
     case m1 => k_extra "mem"
     case m2 => k_extra "kd"
     case m3 => k_extra "pa"
     case m4 => k_extra "slot"
     case m5 => k_extra "mty"
     case m6 => exact fun _ => rfl
     case m7 => rfl
     case m9 => simp; rw [sizeLine_eq]; k_extra "o"
     case m10 => exact fun _ h => h.elim
     case m8 =>
       intro Q' s₃ S₃ _
       refine go _ _ s₃ S₃ ?_ ?_ _ _ _
       · intro v' j' x s' e
         exact Xf hpv e
       · clear S S₃
         intro s₄ h₁ h' tk e l₁ _ S kp hl1 F
         have hBf : ∀ a ∈ xm (zW fd L f :: l),B.get? a = none:=fun a ha => by
           rcases List.mem_cons.mp (show a ∈ L :: xm l from ha) with rfl | ha
           · exact S.base _ (S.fr _ (.inl rfl))
           · exact hfB a ha
         have hXB : zR B (hideAll h₁ (xm l₁)):=fun a o e => by
           have e1:=S.e.base a o e
           refine hideAll_get _ (kp a o (fun q => ?_) e1) fun z => ?_
           · exact Xf (S.base tp ot) (by rw [← q]; exact e)
           · rcases hl1 a z with z | z
             · exact Xf (hBf a z) e
             · exact Xf z e1
         obtain ⟨h4,tk4,e4⟩:=S.same
         refine KT (L:=L) (Around.frames_deeper hfr) rfl F (isSubtype_of_subB (by decide +kernel)) (isSubtype_of_subB (by decide +kernel)) (isSubtype_of_subB (by decide +kernel)) ?_ PassesOwnAt.leaving ?_
         · intro s' E' Q' X' hq
           exact Xz G S.e.n (hXB.trans X') (by k_extra "kd") (.inr hsi) (by decide) hq
         · intro h5 XO
           have hk5 : ∀ a o,a ≠ tp → a ∉ xm (zW fd L f :: l) → s₄.heap.get? a = some o → h5.get? a = some o:=fun a o n1 n2 e1 => by
             refine XO.1 a o (fun z => ?_) (kp a o n1 e1)
             rcases hl1 a z with z | z
             · exact n2 z
             · exact Xf z e1
           have hu5 : ∀ a o,a ≠ tp → s₄.heap.get? a = some o → (∀ vs,o.data ≠ .fields vs) → ∃ sl,h5.get? a = some { o with slots:=sl }:=fun a o n1 e1 n2 => XO.2 a o (kp a o n1 e1) n2
           have htn : tl ∉ xm (zW fd L f :: l):=fun z => by
             rcases List.mem_cons.mp (show tl ∈ L :: xm l from z) with z | z
             · exact S.sep tl _ (.head _) (.inl z)
             · obtain ⟨o,e1,_⟩:=ok.frame z
               rcases S.fresh tl ol with q | q
               · exact q
               · exact Xf q e1
           obtain ⟨v,hv,hr⟩:=S.e.vars (Str.ofString "told") _ yo
           have hr : v = .ref tl:=hr
           subst hr
           have hv5 : yG (zW fd L f) h5 (Str.ofString "told") (.ref tl):=by
             rcases hv with ⟨a,m,⟨o,es,ep,q1,q2,q3⟩,e1⟩ | ⟨a,c1,e1,o,q1,q2⟩
             · obtain ⟨sl,q⟩:=hu5 _ o (fun z => S.sep tp _ yo (.inl z.symm)) q1 fun vs z => by rw [q2] at z; cases z
               exact .inl ⟨a,m,⟨_,es,ep,q,q2,q3⟩,e1⟩
             · obtain ⟨sl,q⟩:=hu5 _ o (fun z => zn (S.e.mem tp _ yo) ⟨o,z ▸ q1,q2⟩) q1 fun vs z => by rw [q2] at z; cases z
               exact .inr ⟨a,c1,e1,_,q,q2⟩
           obtain ⟨us,⟨n,pl⟩,rs⟩:=(S.e.mem tl _ (.head _)).list_inv
           refine wpAny_execs_cons (wpAny_Return_some (Zs S.e.n hv5 (by k_extra "kd") ?_))
           have:=hQ (.ref tl) { s₄ with heap:=h5,toks:=tk } ⟨h5,tk,by rw [e4]⟩ ⟨fun a o n e1 => ?_,fun a o e1 n => ?_⟩ (.list (vs:=us) ⟨n,hk5 tl _ hne.symm htn pl⟩ htlM ?_)
           · exact this
           · have e2:=S.keep a o (fun z => z) e1
             refine hk5 a o (fun z => ?_) (fun z => ?_) e2
             · rcases S.fresh tp ot with q | q
               · exact q
               · exact Xf q (by rw [← z]; exact e1)
             · rcases List.mem_cons.mp (show a ∈ L :: xm l from z) with z | z
               · rcases S.fresh L (S.fr _ (.inl rfl)) with q | q
                 · exact q
                 · exact Xf q (by rw [← z]; exact e1)
               · exact n z
           · refine hu5 a o (fun z => ?_) (S.keep a o (fun z => z) e1) n
             rcases S.fresh tp ot with q | q
             · exact q
             · exact Xf q (by rw [← z]; exact e1)
           · rw [hall]
             have : ∀ (vs : List Value) (zs : List Int),zE prog w s₄.heap (fun b => (M b ∨ b = tp) ∨ b = tl) vs (zs.map D.int) → zE prog w h5 M₁ vs (zs.map D.int):=by
               intro vs zs
               induction zs generalizing vs with
               | nil => intro r; cases r; exact .nil
               | cons z zs ih =>
                 intro r
                 cases r with
                 | cons r0 r => exact .cons (WM r0 rfl) (ih _ r)
             exact this us c.told rs
end
noncomputable def kC (fd : FuncData) : Prop:=∀ s a,BindsTo s fd ⟨[a],[]⟩ [(Str.ofString "self",a)]
noncomputable def Kl (B : Heap) (fd : FuncData) : Prop:=fd.kwdefaults = .none ∧ ∃ T o n,fd.defaults = .ref T ∧ B.get? T = some o ∧ o.data = .seq #[.none] n
theorem Yc {B : Heap} {s : Shared} {f : Addr} {fd : FuncData} (H : yB B (wN 0) f fd) (D : Kl B fd) (X : zR B s.heap) (a b : Value) : BindsTo s fd ⟨[a,b],[]⟩ [(Str.ofString "self",a),(Str.ofString "headers",b)]:=by
 have hp:=H.args
 clear H
 obtain ⟨hk,T,o,n,hd,ho,hs⟩:=D
 obtain ⟨f1,f2,f3,f4,f5,f6,f7,f8,f9,f10,f11,f12,f13,f14,f15⟩:=fd
 dsimp only at hp hd hk
 subst hp hd hk
 exact .of_defaults rfl (X _ _ ho) hs rfl rfl
structure qX (B : Heap) (mg mb : Str → Option Value) (C N : Addr) (mN : Str → Option Value) : Prop where
 G : Gl B mg mb
 cls : ClsAt B C N mN
 nga : mN (Str.ofString "__getattribute__") = none
 nge : mN (Str.ofString "__getattr__") = none
 nse : mN (Str.ofString "__setattr__") = none
 nhd : mN (Str.ofString "_headers") = none
 init : ∃ f fd,mN (Str.ofString "__init__") = some (.ref f) ∧ yB B (wN 0) f fd ∧ Kl B fd
 conv : ∃ f fd,mN (Str.ofString "_convert_string_type") = some (.ref f) ∧ yB B (wN 1) f fd ∧ ∀ s a v k,BindsTo s fd ⟨[a,v],[(Str.ofString "name",k)]⟩ [(Str.ofString "self",a),(Str.ofString "value",v),(Str.ofString "name",k)]
 gall : ∃ f fd,mN (Str.ofString "get_all") = some (.ref f) ∧ yB B (wN 7) f fd ∧ ∀ s a v,BindsTo s fd ⟨[a,v],[]⟩ [(Str.ofString "self",a),(Str.ofString "name",v)]
 keys : ∃ f fd,mN (Str.ofString "keys") = some (.ref f) ∧ yB B (wN 9) f fd ∧ kC fd
 vals : ∃ f fd,mN (Str.ofString "values") = some (.ref f) ∧ yB B (wN 10) f fd ∧ kC fd
 items : ∃ f fd,mN (Str.ofString "items") = some (.ref f) ∧ yB B (wN 11) f fd ∧ kC fd
 addh : ∃ f fd,mN (Str.ofString "add_header") = some (.ref f) ∧ yB B (wN 16) f fd ∧ ∀ (s : Shared) (a n v : Value) (M : Model) (A : Around) (E : Value → Shared → Prop) (Q : List (Str × Value) → Shared → Prop),
  Q [(Str.ofString "self",a),(Str.ofString "_name",n),(Str.ofString "_value",v),(Str.ofString "_params",.ref s.heap.objs.size)] { s with heap:=s.heap.push Y1 } → wpAny M A (bindArgs fd ⟨[a,n,v],[]⟩) Q E s
 rn : ∃ a,mg (Str.ofString "_name_disallowed_re") = some (.ref a) ∧ q6 B a yV
 rv : ∃ a,mg (Str.ofString "_value_disallowed_re") = some (.ref a) ∧ q6 B a xf
 ty : mg (Str.ofString "type") = none ∧ mb (Str.ofString "type") = some (.type "type")
 st : mg (Str.ofString "str") = none ∧ mb (Str.ofString "str") = some (.type "str")
 li : mg (Str.ofString "list") = none ∧ mb (Str.ofString "list") = some (.type "list")
theorem q6.ext {B B' : Heap} {a : Addr} {code : Array Nat} (P : q6 B a code) (X : zR B B') : q6 B' a code:=by
 obtain ⟨o,vs,c,its,n,h1,h2,h3,h4,h5,h6,h7,⟨oc,h8,h9⟩,h10⟩:=P.ob
 exact ⟨o,vs,c,its,n,X _ _ h1,h2,h3,h4,h5,h6,h7,⟨oc,X _ _ h8,h9⟩,h10⟩
theorem qX.ext {B B' : Heap} {mg mb mN : Str → Option Value} {C N : Addr} (H : qX B mg mb C N mN) (X : zR B B') : qX B' mg mb C N mN where
 G:=H.G.ext X
 cls:=H.cls.keeps X
 nga:=H.nga
 nge:=H.nge
 nse:=H.nse
 nhd:=H.nhd
 init:=by obtain ⟨f,fd,h1,h2,h3,T,o,n,h4,h5,h6⟩:=H.init; exact ⟨f,fd,h1,h2.ext X,h3,T,o,n,h4,X _ _ h5,h6⟩
 conv:=by obtain ⟨f,fd,h1,h2,h3⟩:=H.conv; exact ⟨f,fd,h1,h2.ext X,h3⟩
 gall:=by obtain ⟨f,fd,h1,h2,h3⟩:=H.gall; exact ⟨f,fd,h1,h2.ext X,h3⟩
 keys:=by obtain ⟨f,fd,h1,h2,h3⟩:=H.keys; exact ⟨f,fd,h1,h2.ext X,h3⟩
 vals:=by obtain ⟨f,fd,h1,h2,h3⟩:=H.vals; exact ⟨f,fd,h1,h2.ext X,h3⟩
 items:=by obtain ⟨f,fd,h1,h2,h3⟩:=H.items; exact ⟨f,fd,h1,h2.ext X,h3⟩
 addh:=by obtain ⟨f,fd,h1,h2,h3⟩:=H.addh; exact ⟨f,fd,h1,h2.ext X,h3⟩
 rn:=by obtain ⟨a,h1,h2⟩:=H.rn; exact ⟨a,h1,h2.ext X⟩
 rv:=by obtain ⟨a,h1,h2⟩:=H.rv; exact ⟨a,h1,h2.ext X⟩
 ty:=H.ty
 st:=H.st
 li:=H.li
noncomputable def qY (prog : Program) (w : World) (d : D) (C L : Addr) : Prop:=YQ prog w d C (fun y => if y = Str.ofString "_headers" then some (.ref L) else none)
section
variable {prog : Program} {w : World} {B : Heap} {mg mb mN : Str → Option Value} {C N : Addr}
theorem Vb (H : qX B mg mb C N mN) {f : Addr} {fd : FuncData} (HF : yB B (wN 1) f fd) (hb : ∀ s a v k,BindsTo s fd ⟨[a,v],[(Str.ofString "name",k)]⟩ [(Str.ofString "self",a),(Str.ofString "value",v),(Str.ofString "name",k)])
   {A : Around} {s : Shared} {M₁ : Addr → Prop} {a v kv : Value} {x : Str} {b : Bool} {Q E : Value → Shared → Prop} (R : Rm A 1) (X : zR B s.heap) (hold : ∀ a,M₁ a → ∃ o,s.heap.get? a = some o) (rv : Rp prog w s.heap M₁ v (.str x)) (rk : Rp prog w s.heap M₁ kv (.bool b))
   (hx : yy (if b then yV else xf) x = true) (hs : x.cps.size < 2 ^ 63)
   (hQ : ∀ v s',Keeps s s' → Rp prog w s'.heap M₁ v (.str x) → Q v s') : wpAny (model prog w) A (PySem.call (.ref f) [a,v] [(Str.ofString "name",kv)]) Q E s:=by
 refine wy (args:=⟨[a,v],[(Str.ofString "name",kv)]⟩) (M₁:=M₁) H.G HF (hb s a v kv) (by simp only [List.map_cons,List.map_nil]; decide) (by k_extra "kd") R X hold (fun _ => False) (fun _ z => z.elim) [(Str.ofString "value",.dat (.str x)),(Str.ofString "name",.dat (.bool b))] ?_ [] (fun _ _ m => by cases m) List.nodup_nil ?_
 · refine all_cons ?_ (all_cons ?_ all_nil)
   · exact ⟨v,yo,rv⟩
   · exact ⟨kv,xA,rk⟩
 · intro env Own M s₁ _ R' _ _ S
   have G:=H.G
   obtain ⟨an,hn1,hn2⟩:=H.rn
   obtain ⟨av,hv1,hv2⟩:=H.rv
   have hty:=H.ty
   have hst:=H.st
   refine' vF (b:=true) S ?it ?ik
   case it =>
     refine' Tv.cmp (da:=.typ "str") (db:=.typ "str") (b:=true) R' ?ql ?qr (zN.is rfl) rfl
     case ql =>
      refine' Ev.rd (Ev.call S.e R' ?qf ?K ?qx (zH.type x))
      case qf => k_extra "z"
      case K => exact Or.inl fun _ e => by cases e
      case qx => k_extra "z"
     case qr =>
      refine' (Ev.mono (Ev.glob (v:=.type "str") G S.e ?g1 (.inr hst) ?g2) fun h v e => .inl (e ▸ .typ _))
      case g1 | g2 => k_extra "kd"
   case ik =>
     k_extra "next"
     show wpAny _ _ (execs (_ :: _ :: _ :: []) env) _ _ _
     refine' WD (r:=.val (.ref (if b then an else av))) S ?s1 ?s2 rfl ?s3
     case s2 => k_extra "kd"
     case s1 =>
      refine' Ev.ifExpR (b:=b) ?i1 ?i2 ?i3
      case i1 => k_extra "z"
      case i2 =>
       intro hb
       refine' Ev.mono (Ev.glob (v:=.ref an) G S.e ?h1 (.inl hn1) ?h2) fun h v e => ?h3
       case h1 | h2 => k_extra "kd"
       case h3 => rw [hb]; exact e
      case i3 =>
       intro hb
       refine' Ev.mono (Ev.glob (v:=.ref av) G S.e ?h1 (.inl hv1) ?h2) fun h v e => ?h3
       case h1 | h2 => k_extra "kd"
       case h3 => rw [hb]; exact e
     case s3 =>
      k_extra "next"
      have hP : q6 B (if b = true then an else av) (if b = true then yV else xf):=by
       cases b
       · exact hv2
       · exact hn2
      refine' vF (b:=false) S ?j1 ?j2
      case j1 =>
       refine' Tv.plain (d:=.none) (Ev.rd (Ev.search S.e R' (code:=if b then yV else xf) (x:=x) ?k1 ?k2 hP ?k3 hx hs (fun _ => rfl) ?k4)) yq.none rfl
       case k1 => k_extra "mem"
       case k2 => k_extra "kd"
       case k3 => k_extra "z"
       case k4 => rfl
      case j2 =>
       k_extra "next"
       refine zD ?_
       refine' xF (d:=.str x) S ?ra ?rb
       case ra => k_extra "z"
       case rb => exact fun v s' S' r => hQ v s' S'.keeps (r.less S'.more)
end
theorem qS {α β : Type} {f g : α → Option β} : ∀ {l : List α},(∀ x ∈ l,f x = g x) → l.filterMap f = l.filterMap g
 | [],_ => rfl
 | x :: l,h => by
  rw [List.filterMap_cons,List.filterMap_cons,h x (.head _),qS fun y hy => h y (.tail _ hy)]
theorem qO {α : Type} (xs : List α) : (List.range xs.length).filterMap (xs[·]?) = xs:=by
 induction xs with
 | nil => rfl
 | cons x xs ih =>
  rw [List.length_cons,List.range_succ_eq_map,List.filterMap_cons]
  simp only [List.getElem?_cons_zero,List.filterMap_map]
  refine congrArg (x :: ·) ?_
  simpa [Function.comp_def] using ih
theorem wI (a b : Nat) : sliceRange (a : Int) (b : Int) 1 = (List.range (b - a)).map fun k => a + k:=by
 unfold sliceRange
 have : (if (1 : Int) > 0 then (if (a : Int) < b then ((b : Int) - a + 1 - 1) / 1 else 0) else (if (a : Int) > b then ((a : Int) - b - 1 - 1) / (-1) else 0)).toNat = b - a:=by
  rw [if_pos (by decide)]
  by_cases h : (a : Int) < b
  · rw [if_pos h,Int.add_sub_cancel,Int.ediv_one,Int.toNat_sub]
  · rw [if_neg h]; exact (Nat.sub_eq_zero_of_le (Int.ofNat_le.mp (Int.not_lt.mp h))).symm
 dsimp only
 rw [this]
 refine List.map_congr_left fun k _ => ?_
 rw [Int.one_mul,← Int.natCast_add,Int.toNat_natCast]
theorem Wr {α : Type} (xs : List α) : zl xs none none none = xs:=by
 unfold zl sliceBounds
 have:=wI 0 xs.length
 simp only [Option.getD_none,gt_iff_lt,show (0 : Int) < 1 by decide,if_true]
 rw [show (0 : Int) = ((0 : Nat) : Int) from rfl,this]
 simpa using qO xs
theorem W1 {α : Type} (xs : List α) (a : Nat) : ((List.range (xs.length - a)).map fun k => a + k).filterMap (xs[·]?) = xs.drop a:=by
 rw [List.filterMap_map]
 have:=qO (xs.drop a)
 rw [List.length_drop] at this
 refine Eq.trans ?_ this
 refine qS fun k _ => ?_
 simp [List.getElem?_drop]
theorem ZP {α : Type} (xs : List α) (b : Nat) (h : b ≤ xs.length) : (List.range b).filterMap (xs[·]?) = xs.take b:=by
 have:=qO (xs.take b)
 rw [List.length_take,Nat.min_eq_left h] at this
 refine Eq.trans ?_ this
 refine qS fun k hk => ?_
 rw [List.getElem?_take,if_pos (List.mem_range.mp hk)]
theorem Xp {α : Type} (xs : List α) (a : Nat) (h : a ≤ xs.length) : zl xs (some (a : Int)) none none = xs.drop a:=by
 unfold zl sliceBounds
 have:=wI a xs.length
 simp only [Option.getD_none,gt_iff_lt,show (0 : Int) < 1 by decide,if_true]
 have e : max 0 (min (if (a : Int) < 0 then (a : Int) + (xs.length : Int) else (a : Int)) (xs.length : Int)) = (a : Int):=by
  rw [if_neg (Wt a),J8,Nat.min_eq_left h]
 rw [e,this]
 exact W1 xs a
theorem j7 {α : Type} (xs : List α) (b : Nat) : zl xs none (some (b : Int)) none = xs.take b:=by
 unfold zl sliceBounds
 simp only [Option.getD_none,gt_iff_lt,show (0 : Int) < 1 by decide,if_true]
 have e : max 0 (min (if (b : Int) < 0 then (b : Int) + (xs.length : Int) else (b : Int)) (xs.length : Int)) = ((min b xs.length : Nat) : Int):=by
  rw [if_neg (Wt b),J8]
 rw [e,show (0 : Int) = ((0 : Nat) : Int) from rfl,wI]
 simp only [Nat.sub_zero,Nat.zero_add]
 rw [List.map_id']
 rw [ZP xs (min b xs.length) (Nat.min_le_right _ _),List.take_eq_take_min]
 simp
theorem Xh {α : Type} (xs : List α) : zl xs none (some (-1)) none = xs.take (xs.length - 1):=by
 unfold zl sliceBounds
 simp only [Option.getD_none,gt_iff_lt,show (0 : Int) < 1 by decide,if_true]
 have e : max 0 (min (if (-1 : Int) < 0 then (-1 : Int) + (xs.length : Int) else (-1 : Int)) (xs.length : Int)) = ((xs.length - 1 : Nat) : Int):=by
  rw [if_pos (by decide),KA]
 rw [e,show (0 : Int) = ((0 : Nat) : Int) from rfl,wI]
 simp only [Nat.sub_zero,Nat.zero_add]
 rw [List.map_id']
 exact ZP xs _ (Nat.sub_le _ _)
section
variable {prog : Program} {w : World} {B : Heap} {mg mb mN : Str → Option Value} {C N : Addr}
theorem Q9 : typeLookup (.type "object") (Str.ofString "_convert_string_type") = pure none:=by rw [typeLookup_type,builtinLookup_eq_fast]; kernel_rfl
theorem kD : typeLookup (.type "object") (Str.ofString "_headers") = pure none:=by rw [typeLookup_type,builtinLookup_eq_fast]; kernel_rfl
theorem V8 : typeLookup (.type "object") (Str.ofString "items") = pure none:=by rw [typeLookup_type,builtinLookup_eq_fast]; kernel_rfl
theorem Xw : typeLookup (.type "object") (Str.ofString "keys") = pure none:=by rw [typeLookup_type,builtinLookup_eq_fast]; kernel_rfl
theorem Wv : typeLookup (.type "object") (Str.ofString "get_all") = pure none:=by rw [typeLookup_type,builtinLookup_eq_fast]; kernel_rfl
theorem JW : typeLookup (.type "object") (Str.ofString "add_header") = pure none:=by rw [typeLookup_type,builtinLookup_eq_fast]; kernel_rfl
theorem Ev.conv (H : qX B mg mb C N mN) {names : zJ} {env : Env} {ρ : List (Str × RV)} {μ : List (Addr × D)} {A : Around} {h : Heap} {M : Addr → Prop} (S : En prog w B names env h M ρ μ) (R : Rm A 1) {o e ke0 : Expr} {d : D} {L : Addr} {x : Str} {b : Bool} {apos pos kp : Pos} (I : qY prog w d C L)
  (ho : Ev prog w A h o env (PS prog w M d)) (he : Ev prog w A h e env (PS prog w M (.str x))) (hk : Ev prog w A h ke0 env (PS prog w M (.bool b))) (hx : yy (if b then yV else xf) x = true) (hs : x.cps.size < 2 ^ 63) {pl : Sem Bool}
  (hst : ∀ rest,starEach (e :: rest) env = (false,eval e env) :: starEach rest env)
  (hev : eval (.Call (.Attribute o (Str.ofString "_convert_string_type") apos) [e] [⟨some (Str.ofString "name"),ke0,kp⟩] pos) env = (do
   let ov ← eval o env
   standAt apos.atName
   let (f,first) ← holding [ov] (getMethod ov (Str.ofString "_convert_string_type") pl)
   callWith pos f first (backTo pos (starEach [e] env)) (backToKw pos (keywordEach [⟨some (Str.ofString "name"),ke0,kp⟩] env)))) :
  Ev prog w A h (.Call (.Attribute o (Str.ofString "_convert_string_type") apos) [e] [⟨some (Str.ofString "name"),ke0,kp⟩] pos) env (PS prog w M (.str x)):=by
 intro s E Q kx hQ
 obtain ⟨f,fd,hf,HF,hb⟩:=H.conv
 have S':=S.ext kx
 refine Xc (rs:=[.dat (.str x)]) (kr:=.dat (.bool b)) S' (ho.ext kx) I H.cls hf HF H.nga H.nge Q9 (by rw [if_neg (by decide)]) (.cons (he.ext kx) .nil hst) (hk.ext kx) (hst []) (fun x' vs kv s' ks rx rs rk => ?_) hev
 refine zP.use1 rs fun v r => ?_
 refine Vb H HF hb R (S'.base.trans (ke ks)) (fun a m => by obtain ⟨o,e⟩:=S'.old a m; exact ⟨o,ke ks a o e⟩) r rk hx hs fun v s'' k' rv => hQ v s'' (zA ks k') rv
theorem Ev.hdrs (H : qX B mg mb C N mN) {names : zJ} {env : Env} {ρ : List (Str × RV)} {μ : List (Addr × D)} {A : Around} {h : Heap} {M : Addr → Prop} (S : En prog w B names env h M ρ μ) {o : Expr} {d : D} {L : Addr} {pos : Pos} (I : qY prog w d C L)
  (ho : Ev prog w A h o env (PS prog w M d)) (hb : attributeBase o (Str.ofString "_headers") env (eval o env) = eval o env) : Ev prog w A h (.Attribute o (Str.ofString "_headers") pos) env (fun _ u => u = .ref L) :=
 Ev.attr S ho I H.cls hb (by rw [if_pos rfl]) H.nga H.nhd kD rfl
theorem Xg (H : qX B mg mb C N mN) {f : Addr} {fd : FuncData} (HF : yB B (wN 11) f fd) (hb : kC fd) {A : Around} {s : Shared} {M₁ : Addr → Prop} {a : Value} {d : D} {L : Addr} {rows : List D} {Q E : Value → Shared → Prop} (R : Rm A 1) (X : zR B s.heap) (hold : ∀ a,M₁ a → ∃ o,s.heap.get? a = some o)
   (I : qY prog w d C L) (ra : Rp prog w s.heap M₁ a d) (hc : zc prog w s.heap M₁ L (.list rows)) (hz : rows.length ≤ 1000)
   (hQ : ∀ b s',Keeps s s' → s.heap.get? b = none → zc prog w s'.heap (fun c => M₁ c ∨ c = b) b (.list rows) → Q (.ref b) s') : wpAny (model prog w) A (PySem.call (.ref f) [a]) Q E s:=by
 refine wy (args:=⟨[a],[]⟩) (M₁:=M₁) H.G HF (hb s a) (by simp) (by k_extra "kd") R X hold (fun _ => False) (fun _ z => z.elim) [(Str.ofString "self",.dat d)] ?_ [(L,.list rows)] (fun b x m => by cases List.mem_singleton.mp m; exact hc) (by simp) ?_
 · intro y r hm
   cases List.mem_singleton.mp hm
   exact ⟨a,.head _,ra⟩
 · intro env Own M s₁ _ R' _ _ S
   have hp : zl rows none none none = rows:=Wr rows
   refine wpAny_execs_cons (wpAny_Return_some ?_)
   refine' jK.slice (lo:=none) (hi:=none) (st:=none) (xs:=rows) S.e ?qv zd.none zd.none zd.none (by decide) (by rw [sizeLine_eq]; k_extra "o") s₁ _ _ (zR.refl _) ?qq
   case qv =>
    refine' Ev.place S.e (Ev.hdrs H S.e I ?qo ?qb) (.head _)
    case qo => k_extra "z"
    case qb => rfl
   case qq =>
    intro b s' ks hn c
    rw [hp] at c
    have k2:=zA S.keeps ks
    refine hQ b s' k2 (yj S.keeps hn) (c.to (fun o e => e) fun e o m q => ⟨q,fun z => m (z.imp (S.more e) id)⟩)
noncomputable def YL (y : Str × Str) : D:=.tup [.str y.1,.str y.2]
noncomputable abbrev za (ys : List (Str × Str)) : D:=.list (ys.map YL)
theorem JS {names : zJ} {p1 p2 pos : Pos} {k : Nat} {a b : Str} (y : Str × Str) (hn : ([a,b] : List Str).Nodup) (hk : (zY names a && zY names b) = true) : wD prog w names (.Tuple [.Name a p1,.Name b p2] k pos) (YL y) [(a,.dat (.str y.1)),(b,.dat (.str y.2))]:=by
 refine wD.tuple [(a,p1),(b,p2)] rfl hn ?_ rfl
 simpa using hk
theorem Zg (H : qX B mg mb C N mN) {f : Addr} {fd : FuncData} (HF : yB B (wN 9) f fd) (hb : kC fd) {A : Around} {s : Shared} {M₁ : Addr → Prop} {a : Value} {d : D} {L : Addr} {ys : List (Str × Str)} {Q E : Value → Shared → Prop} (R : Rm A 1) (X : zR B s.heap) (hold : ∀ a,M₁ a → ∃ o,s.heap.get? a = some o)
   (I : qY prog w d C L) (ra : Rp prog w s.heap M₁ a d) (hc : zc prog w s.heap M₁ L (za ys)) (hz : ys.length ≤ 1000)
   (hQ : ∀ v s',Keeps s s' → Rp prog w s'.heap M₁ v (.list (ys.map fun y => .str y.1)) → Q v s') : wpAny (model prog w) A (PySem.call (.ref f) [a]) Q E s:=by
 refine wy (args:=⟨[a],[]⟩) (M₁:=M₁) H.G HF (hb s a) (by simp) (by k_extra "kd") R X hold (fun _ => False) (fun _ z => z.elim) [(Str.ofString "self",.dat d)] ?_ [(L,za ys)] (fun b x m => by cases List.mem_singleton.mp m; exact hc) (by simp) ?_
 · intro y r hm
   cases List.mem_singleton.mp hm
   exact ⟨a,.head _,ra⟩
 · intro env Own M s₁ _ R' _ _ S
   refine' xF S (d:=.list (ys.map fun y => .str y.1)) ?ra (fun v s' S' r => hQ v s' S'.keeps (r.less S'.more))
   case ra =>
    refine' Ev.compM (α:=Str × Str) S.e R' ?hc ?src ys YL (zb.list _) (fun y => [(Str.ofString "k",.dat (.str y.1)),(Str.ofString "v",.dat (.str y.2))]) (fun y => .str y.1) ?asg ?ap (by rw [sizeLine_eq]; k_extra "o") ?fs ?turn
    case hc => k_extra "kd"
    case src =>
     refine' Ev.place S.e (Ev.hdrs H S.e I ?qo ?qb) (.head _)
     case qo => k_extra "z"
     case qb => rfl
    case asg => exact fun y _ => JS y (by decide) (by k_extra "kd")
    case ap => exact xu fun y => by k_extra "kd"
    case fs => k_extra "fs"
    case turn =>
     intro y hy env' h' M' kx hE
     k_extra "z"
noncomputable def xi (x : Str) : Bool:=!Builtin.Str.tooLong (zX x).cps.size
theorem Ev.lower {names : zJ} {env : Env} {ρ : List (Str × RV)} {μ : List (Addr × D)} {A : Around} {h : Heap} {M : Addr → Prop} (S : En prog w B names env h M ρ μ) (R : Rm A 0) {o : Expr} {apos pos : Pos} {x : Str} (ho : Ev prog w A h o env (PR prog w M (.str x))) (hx : xi x = true) (hb : attributeBase o (Str.ofString "lower") env (eval o env) = eval o env) (hl : (apos.endLine == pos.line) = true) :
  Ev prog w A h (.Call (.Attribute o (Str.ofString "lower") apos) [] [] pos) env (PS prog w M (.str (zX x))) :=
 Ev.meth S R ho rfl F.plainAttrs_str F.slot_str_lower F.type_str_lower .nil hb (by decide) hl (zH.lower x (by simpa [xi] using hx))
theorem VN (H : qX B mg mb C N mN) {f : Addr} {fd : FuncData} (HF : yB B (wN 7) f fd) (hb : ∀ s a v,BindsTo s fd ⟨[a,v],[]⟩ [(Str.ofString "self",a),(Str.ofString "name",v)]) {A : Around} {s : Shared} {M₁ : Addr → Prop} {a vn : Value} {d : D} {L : Addr} {ys : List (Str × Str)} {nm : Str} {Q E : Value → Shared → Prop} (R : Rm A 2) (X : zR B s.heap) (hold : ∀ a,M₁ a → ∃ o,s.heap.get? a = some o)
   (I : qY prog w d C L) (ra : Rp prog w s.heap M₁ a d) (rn : Rp prog w s.heap M₁ vn (.str nm)) (hc : zc prog w s.heap M₁ L (za ys)) (hz : ys.length ≤ 1000) (hl : xi nm = true) (hx : yy yV (zX nm) = true) (hs : (zX nm).cps.size < 2 ^ 63) (hys : ∀ y ∈ ys,xi y.1 = true)
   (hQ : ∀ v s',Keeps s s' → Rp prog w s'.heap M₁ v (.list ((ys.filter fun y => zX y.1 == zX nm).map fun y => .str y.2)) → Q v s') : wpAny (model prog w) A (PySem.call (.ref f) [a,vn]) Q E s:=by
 refine wy (args:=⟨[a,vn],[]⟩) (M₁:=M₁) H.G HF (hb s a vn) (by simp only [List.map_cons,List.map_nil]; decide) (by k_extra "kd") R X hold (fun _ => False) (fun _ z => z.elim) [(Str.ofString "self",.dat d),(Str.ofString "name",.dat (.str nm))] ?_ [(L,za ys)] (fun b x m => by cases List.mem_singleton.mp m; exact hc) (by simp) ?_
 · refine all_cons ?_ (all_cons ?_ all_nil)
   · exact ⟨a,.head _,ra⟩
   · exact ⟨vn,yo,rn⟩
 · intro env Own M s₁ _ R' _ _ S
   have R0 : Rm (A.deeper env) 0:=R'.le (Nat.zero_le _)
   refine' yK (d:=.str (zX nm)) S ?sa ?sb rfl ?sd
   case sb => k_extra "kd"
   case sa =>
     refine' Ev.conv (b:=true) H S.e R' I ?qo (Ev.lower S.e R0 ?o2 hl rfl rfl) ?kb hx hs (fun _ => rfl) rfl
     case qo | o2 | kb => k_extra "z"
   case sd =>
     k_extra "next"
     refine' xF S (d:=.list ((ys.filter fun y => zX y.1 == zX nm).map fun y => .str y.2)) ?ra (fun v s' S' r => hQ v s' S'.keeps (r.less S'.more))
     case ra =>
      refine' Ev.comp1F (α:=Str × Str) S.e R0 ?hc ?src ys YL (zb.list _) (fun y => zX y.1 == zX nm) (fun y => .str y.2) ?hx (by rw [sizeLine_eq]; k_extra "o") ?fs ?turn
      case hc => k_extra "kd"
      case src =>
       refine' Ev.place S.e (Ev.hdrs H S.e I ?qo ?qb) (.head _)
       case qo => k_extra "z"
       case qb => rfl
      case hx => k_extra "kd"
      case fs => k_extra "fs"
      case turn =>
       intro y hy env' h' M' kx hE
       have it : ∀ (i : Int) (j : Nat) (x : Str) (p q : Pos) (e : Expr),Ev prog w (A.deeper env) h' e env' (PR prog w M' (.int i)) → seqIndex? i 2 = some j → ([D.str y.1,D.str y.2] : List D)[j]? = some (.str x) → -(2 ^ 63) ≤ i → i < 2 ^ 63 → Ev prog w (A.deeper env) h' (.Subscript (.Name (Str.ofString "kv") p) e q) env' (PS prog w M' (.str x)):=by
        intro i j x p q e he hj hx h0 h1
        refine' Ev.itemT (xs:=[.str y.1,.str y.2]) ?qv he h0 h1 hj hx
        case qv => exact Ev.rd (Ev.name hE (d:=YL y) (.head _) (by decide))
       refine ⟨xO.one ?qt,fun _ => ?qe⟩
       case qt =>
        refine' Tv.cmp R0 (Ev.rd (Ev.lower hE R0 (Ev.rd (it 0 0 y.1 _ _ _ ?i0 rfl rfl (by decide) (by decide))) (hys y hy) rfl rfl)) ?qr (zN.eqS _ _) rfl
        case i0 | qr => k_extra "z"
       case qe =>
        refine' it 1 1 y.2 _ _ _ ?i1 rfl rfl (by decide) (by decide)
        case i1 => k_extra "z"
noncomputable def X6 : Str:=Str.ofString "; "
theorem Wx (H : qX B mg mb C N mN) {f : Addr} {fd : FuncData} (HF : yB B (wN 16) f fd) (hb : ∀ (s : Shared) (a n v : Value) (M : Model) (A : Around) (E : Value → Shared → Prop) (Q : List (Str × Value) → Shared → Prop),
     Q [(Str.ofString "self",a),(Str.ofString "_name",n),(Str.ofString "_value",v),(Str.ofString "_params",.ref s.heap.objs.size)] { s with heap:=s.heap.push Y1 } → wpAny M A (bindArgs fd ⟨[a,n,v],[]⟩) Q E s)
   {A : Around} {s : Shared} {M₁ : Addr → Prop} {a vn vt : Value} {d : D} {L : Addr} {rows : List D} {nm tx : Str} {Q E : Value → Shared → Prop} (R : Rm A 2) (X : zR B s.heap) (hold : ∀ a,M₁ a → ∃ o,s.heap.get? a = some o)
   (I : qY prog w d C L) (ra : Rp prog w s.heap M₁ a d) (rn : Rp prog w s.heap M₁ vn (.str nm)) (rt : Rp prog w s.heap M₁ vt (.str tx)) (hL : M₁ L) (hLB : B.get? L = none) (hc : zc prog w s.heap M₁ L (.list rows)) (hz : rows.length ≤ 1000) (hsys : B.get? sysModules ≠ none)
   (hx : yy yV nm = true) (hs : nm.cps.size < 2 ^ 63) (hx2 : yy xf tx = true) (hs2 : tx.cps.size < 2 ^ 63) (hj : yc X6 [tx] = true)
   (hQ : ∀ s',Yb [L] s s' → zc prog w s'.heap M₁ L (.list (rows ++ [.tup [.str nm,.str tx]])) → Q .none s') : wpAny (model prog w) A (PySem.call (.ref f) [a,vn,vt]) Q E s:=by
 have kp : Keeps s { s with heap:=s.heap.push Y1 }:=zQ s Y1 s.toks
 have hnD : ¬ M₁ s.heap.objs.size:=fun m => by obtain ⟨o,e⟩:=hold _ m; exact absurd (Heap.lt_size e) (Nat.lt_irrefl _)
 have hDs : (s.heap.objs.size == sysModules) = false:=by
   cases q : s.heap.objs.size == sysModules with
   | false => rfl
   | true =>
     exfalso
     cases e : B.get? sysModules with
     | none => exact hsys e
     | some o => have:=Heap.lt_size (X _ _ e); rw [beq_iff_eq.mp q] at this; exact absurd this (Nat.lt_irrefl _)
 refine QW (sa:=s) (args:=⟨[a,vn,vt],[]⟩) (M₁:=M₁) H.G HF kp (fun M A E Q hq => hb s a vn vt M A E Q hq) (by simp only [List.map_cons,List.map_nil]; decide) (by k_extra "kd") R X (fun b m => by obtain ⟨o,e⟩:=hold b m; exact ⟨o,ke kp b o e⟩) (fun b => b = L) (fun b z => by subst z; exact ⟨hL,hLB⟩)
   [(Str.ofString "self",.dat d),(Str.ofString "_name",.dat (.str nm)),(Str.ofString "_value",.dat (.str tx)),(Str.ofString "_params",.dat (.ob s.heap.objs.size Y1))] ?_ [(L,.list rows)] (fun b x m => by cases List.mem_singleton.mp m; exact hc.ext (ke kp)) (by simp) ?_
 · refine all_cons ?_ (all_cons ?_ (all_cons ?_ (all_cons ?_ all_nil)))
   · exact ⟨a,.head _,ra.ext (ke kp)⟩
   · exact ⟨vn,yo,rn.ext (ke kp)⟩
   · exact ⟨vt,xA,rt.ext (ke kp)⟩
   · exact ⟨_,jM,.ob (Heap.get?_push_size _ rfl) hnD⟩
 · intro env Own M s₁ _ R' hO hMM S
   have R0 : Rm (A.deeper env) 0:=R'.le (Nat.zero_le _)
   have hOL : Own L:=hO L rfl
   refine' YB S ?nA ?nB ?nC ?nD
   case nB => k_extra "kd"
   case nC => rfl
   case nA => k_extra "z"
   clear S
   intro p s' hp S
   show wpAny _ _ (execs (_ :: _ :: _ :: []) env) _ _ _
   refine' vF (b:=!false) S ?it ?ik
   case it => k_extra "z"
   case ik =>
     k_extra "next"
     show wpAny _ _ (execs (_ :: _ :: []) env) _ _ _
     refine' yK (d:=.str tx) S ?sa ?sb rfl ?sd
     case sb => k_extra "kd"
     case sa =>
      refine' Ev.conv (b:=false) H S.e R' I ?qo ?o2 ?kb hx2 hs2 (fun _ => rfl) rfl
      case qo | o2 | kb => k_extra "z"
     case sd =>
      k_extra "next"
      k_extra "mut0"
      refine zD ?_
      show wpAny _ _ (execs (_ :: _ :: []) env) _ _ _
      refine' ZE (a:=s.heap.objs.size) S R0 ?f1 ?f2 ?f3 hDs ?f4 ?f5
      case f1 => k_extra "mem"
      case f2 => k_extra "kd"
      case f3 => rfl
      case f4 => k_extra "fs"
      case f5 =>
       k_extra "next"
       rw [List.nil_append,List.nil_append] at S
       show wpAny _ _ (execs (_ :: []) env) _ _ _
       refine' JY (pre:=[(p,.list [.str tx])]) (post:=[]) (d:=.list rows) (ds:=[.tup [.str nm,.str tx]]) S R0 ?g1 rfl (.inl hOL) rfl ?g2 ?g3 ?g4 ?g5 (by rfl) (by rfl) (by rfl) (xI.append _ _ (by rw [sizeLine_eq]; k_extra "o")) (by rfl) ?g6
       case g1 =>
        refine' Ev.hdrs H S.e I ?qo ?qb
        case qo => k_extra "z"
        case qb => rfl
       case g2 => k_extra "pa"
       case g3 => k_extra "slot"
       case g4 => k_extra "mty"
       case g5 =>
        refine .cons (Ev.tuple S.e (.cons ?t1 (.cons ?t2 .nil (fun _ => rfl)) (fun _ => rfl)) (by rw [sizeLine_eq]; simp)) .nil (fun _ => rfl)
        case t1 =>
         refine' Ev.conv (b:=true) H S.e R' I ?qo ?o2 ?kb hx hs (fun _ => rfl) rfl
         case qo | o2 | kb => k_extra "z"
        case t2 =>
         refine' Ev.meth S.e R0 (dr:=.str X6) (ds:=[.list ([tx].map .str)]) (d:=.str tx) ?mo rfl ?mp ?ms ?mt ?mx (by rfl) (by decide) (by rfl) (zH.join X6 [tx] hj)
         case mo => k_extra "z"
         case mp => k_extra "pa"
         case ms => k_extra "slot"
         case mt => k_extra "mty"
         case mx =>
          refine .cons (Ev.nameM S.e ?n1 (.head _) ?n2) .nil fun _ => rfl
          case n1 => k_extra "mem"
          case n2 => k_extra "kd"
       case g6 =>
        intro s₂ S₂
        refine zD ?_
        obtain ⟨h',tk,kk⟩:=S₂.eff
        refine hQ s₂ ?_ ((S₂.e.mem L _ yo).to (fun _ e => e) fun b o m e => ⟨e,fun z => m (.inl (by first | exact S₂.more b z | exact absurd z (fun z => m (S₂.more b z))))⟩)
        exact ⟨h',tk,kk.1,fun b o n e => kk.2 b o n (ke kp b o e)⟩
theorem KP {h : Heap} {x L : Addr} {M : Addr → Prop} (I : h.InstFk x C (fun y => if y = Str.ofString "_headers" then some (.ref L) else none)) (hx : ¬ M x) (hd : ∀ dx o,h.get? x = some o → o.dict = some dx → ¬ M dx) : ∃ d,qY prog w d C L ∧ Rp prog w h M (.ref x) d:=by
 obtain ⟨ox,e1,e2,e3,e4⟩:=I
 rcases e4 with ⟨_,e4⟩ | ⟨dx,e4,e5,⟨od,es,ep,n1,n2⟩,e6⟩
 · have:=e4 (Str.ofString "_headers"); simp at this
 · refine ⟨.obs x ox [(dx,od)],fun h2 M2 v r => ?_,.obs e1 hx fun p hp => ?_⟩
   · obtain ⟨rfl,q1,_,q2⟩:=r.obs_inv
     have q3:=(q2 _ (.head _)).1
     refine ⟨x,rfl,ox,q1,e2,e3,.inr ⟨dx,e4,e5,⟨od,es,ep,q3,n2⟩, ?_⟩⟩
     obtain ⟨od',m1,m2⟩:=e6
     rw [n1] at m1; cases m1
     exact ⟨od,q3,m2⟩
   · cases List.mem_singleton.mp hp
     exact ⟨n1,hd dx ox e1 e4⟩
theorem Qo (H : qX B mg mb C N mN) {A : Around} {s : Shared} {M₁ : Addr → Prop} {L : Addr} {Q E : Value → Shared → Prop} (R : ∀ vs,Rm (A.under (.builtin "type.__call__" ⟨.ref C :: vs,[]⟩)) 2) (X : zR B s.heap) (hold : ∀ a,M₁ a → ∃ o,s.heap.get? a = some o) (hc : zc prog w s.heap M₁ L (.list []))
   (hQ : ∀ x d s',Keeps s s' → qY prog w d C L → Rp prog w s'.heap M₁ (.ref x) d → Q (.ref x) s') : wpAny (model prog w) A (PySem.call (.ref C) [.ref L]) Q E s:=by
 obtain ⟨f,fd,hi,HF,hb⟩:=H.init
 obtain ⟨of,hof,hofd,hofc⟩:=HF.get
 have X':=X
 obtain ⟨hp,g,dr,tk,os⟩:=s
 have XC:=H.cls.keeps X
 obtain ⟨nm,q,bs,sn,sub,col,dd,k0,k1,k2,k3,k5,hC⟩:=XC.obj
 refine wpAny_call_obj_initFk PySem.F.objNew hC XC.ns hi (X _ _ hof) hofc fun h' x dx Mk => ?_
 have kp : Keeps (⟨hp,g,dr,tk,os⟩ : Shared) ⟨h',g,dr,tk,os⟩:=⟨h',tk,rfl,Mk.keeps⟩
 have hnx : ¬ M₁ x:=fun m => by obtain ⟨o,e⟩:=hold _ m; exact Xf Mk.newX e
 have hnd : ¬ M₁ dx:=fun m => by obtain ⟨o,e⟩:=hold _ m; exact Xf Mk.newD e
 refine wy (args:=⟨[.ref x,.ref L],[]⟩) (s:=⟨h',g,dr,tk,os⟩) (M₁:=M₁) H.G HF (Yc (s:=⟨h',g,dr,tk,os⟩) HF hb (X.trans (ke kp)) (.ref x) (.ref L)) (by simp only [List.map_cons,List.map_nil]; decide) (by k_extra "kd") (R _) (X.trans (ke kp)) (fun b m => by obtain ⟨o,e⟩:=hold b m; exact ⟨o,Mk.keeps b o e⟩) (fun _ => False) (fun _ z => z.elim) [(Str.ofString "self",.val (.ref x)),(Str.ofString "headers",.adr L)] ?_ [(L,.list [])] (fun b z m => by cases List.mem_singleton.mp m; exact hc.ext (ke kp)) (by simp) ?_
 · refine all_cons ?_ (all_cons ?_ all_nil)
   · exact ⟨_,.head _,rfl⟩
   · exact ⟨_,yo,rfl⟩
 · intro env Own M s₁ hLe R' _ hMM S
   obtain ⟨Lf,rfl⟩:=hLe
   have R0 : Rm ((A.under (.builtin "type.__call__" ⟨[.ref C,.ref L],[]⟩)).deeper (zW fd Lf f)) 0:=R'.le (Nat.zero_le _)
   have G:=H.G
   have hty:=H.ty
   have hli:=H.li
   refine' WD (r:=.adr L) S ?s1 ?s2 rfl ?s3
   case s2 => k_extra "kd"
   case s1 =>
     refine' Ev.ifExpR (b:=!false) ?i1 ?i2 ?i3
     case i1 => k_extra "z"
     case i2 =>
      intro _
      refine' Ev.var S.e ?h1 ?h2
      case h1 => k_extra "mem"
      case h2 => k_extra "kd"
     case i3 => intro h; cases h
   case s3 =>
     k_extra "next"
     show wpAny _ _ (execs (_ :: _ :: _ :: []) _) _ _ _
     refine' vF (b:=!true) S ?it ?ik
     case it =>
      refine' Tv.cmp (da:=.typ "list") (db:=.typ "list") R0 ?ql ?qr (zN.isNot rfl) rfl
      case ql =>
        refine' Ev.rd (Ev.call S.e R0 ?qf ?K ?qx (zH.typeL []))
        case qf => k_extra "z"
        case K => exact Or.inl fun _ e => by cases e
        case qx => k_extra "z"
      case qr =>
        refine' (Ev.mono (Ev.glob (v:=.type "list") G S.e ?g1 (.inr hli) ?g2) fun h v e => .inl (e ▸ .typ _))
        case g1 | g2 => k_extra "kd"
     case ik =>
      k_extra "next"
      refine zD ?_
      show wpAny _ _ (execs (_ :: _ :: []) _) _ _ _
      have Xs:=S.e.base
      have XC2:=H.cls.keeps Xs
      obtain ⟨nm2,q2,bs2,sn2,sub2,col2,dd2,k02,k12,k22,k32,k52,hC2⟩:=XC2.obj
      have kS:=S.keeps
      have ix:=Mk.inst.keeps (ke kS)
      have hxC : x ≠ C:=fun z => Xf Mk.newX (by rw [z]; exact hC)
      obtain ⟨ox0,hx0⟩ : ∃ o,h'.get? x = some o:=by obtain ⟨o,e,_⟩:=Mk.inst; exact ⟨o,e⟩
      have hdx0:=Mk.dict ox0 hx0
      have hLf : ∀ z,zO (zZ (wN 0)).names (zW fd Lf f) z → z ≠ x ∧ z ≠ dx:=fun z hz => by
        rcases S.fresh z (S.fr z hz) with q | q
        · exact q.elim
        · refine ⟨fun e => ?_,fun e => ?_⟩
          · rw [e] at q; rw [show h'.get? x = none from q] at hx0; cases hx0
          · rw [e] at q
            obtain ⟨o,e1,e2,e3,e4⟩:=Mk.inst
            rcases e4 with ⟨e4,_⟩ | ⟨d2,e4,_,⟨od,es,ep,n1,_⟩,_⟩
            · rw [Mk.dict o e1] at e4; cases e4
            · rw [Mk.dict o e1] at e4; cases e4
              exact Xf (show h'.get? dx = none from q) n1
      refine wpAny_execs_cons (plainObj_wpAny_Assign_Attribute ?_ rfl)
      refine Ev.var (x:=Str.ofString "headers") (r:=.adr L) S.e ?v1 ?v2 _ _ _ (zR.refl _) fun v s₂ k₂ r => ?_
      case v1 => k_extra "mem"
      case v2 => k_extra "kd"
      have r : v = .ref L:=r
      subst r
      refine Ev.var (x:=Str.ofString "self") (r:=.val (.ref x)) (S.step k₂).e ?v1 ?v2 _ _ _ (zR.refl _) fun v s₃ k₃ r => ?_
      case v1 => k_extra "mem"
      case v2 => k_extra "kd"
      have r : v = .ref x:=r
      subst r
      have k23:=zA k₂ k₃
      have S₃:=S.step k23
      have ix3:=ix.keeps (ke k23)
      obtain ⟨hp3,g3,dr3,tk3,os3⟩:=s₃
      refine store_attrFk PySem.F.store_object (ke k23 _ _ hC2) (XC2.keeps (ke k23)).ns H.nse H.nhd kD hxC ix3 fun h4 tk4 I4 kk4 hs4 => ?_
      have hx3 : hp3.get? x = some ox0:=ke k23 _ _ (ke kS _ _ hx0)
      have keep4 : ∀ b o,b ≠ x → b ≠ dx → hp3.get? b = some o → h4.get? b = some o:=fun b o n1 n2 e => kk4 b o n1 (fun o₀ d' e₀ ed => by
        rw [hx3] at e₀; cases e₀; rw [hdx0] at ed; cases ed; exact n2) e
      obtain ⟨v,hv,hr⟩:=S₃.e.vars (Str.ofString "headers") (.adr L) (by k_extra "mem")
      have hr : v = .ref L:=hr
      subst hr
      have hv4 : yG (zW fd Lf f) h4 (Str.ofString "headers") (.ref L):=by
        rcases hv with ⟨a,m,n,e1⟩ | ⟨a,c1,e1,o,q1,q2⟩
        · exact .inl ⟨a,m,n.at' fun o e => keep4 _ o (hLf _ (.inl rfl)).1 (hLf _ (.inl rfl)).2 e,e1⟩
        · exfalso
          have hlo:=S₃.e.n.lo (Str.ofString "headers") (by k_extra "kd")
          rcases a with a | ⟨a,_⟩ <;> (rw [hlo] at a; cases a)
      obtain ⟨us,pl,rs⟩:=(S₃.e.mem L _ (.head _)).list_inv
      have hus : us = []:=by cases rs; rfl
      subst hus
      have pl4 : h4.PlainList L #[]:=pl.at fun o e => keep4 L o (fun z => by
        obtain ⟨n,pl⟩:=pl
        have pl : hp3.get? L = _:=pl
        obtain ⟨o',e1',e2',_⟩:=ix3
        have e1' : hp3.get? x = some o':=e1'
        rw [z,e1'] at pl; cases pl; cases e2') (fun z => by
        obtain ⟨n,pl⟩:=pl
        have pl : hp3.get? L = _:=pl
        obtain ⟨o',e1',_,_,e4'⟩:=ix3
        rw [hx3] at e1'; cases e1'
        rcases e4' with ⟨e4',_⟩ | ⟨d2,e4',_,⟨od,es,ep,n1,n2,_⟩,_⟩
        · rw [hdx0] at e4'; cases e4'
        · rw [hdx0] at e4'; cases e4'
          have n1 : hp3.get? dx = some od:=n1
          rw [z,n1] at pl; cases pl; cases n2) e
      refine wpAny_execs_cons (wpAny_If (Tv.plain (M:=fun _ => False) (h:=h4) (d:=.bool true) (Ev.rd (Ev.const_bool _ _ _)) (yq.bool _) rfl _ _ _ (zR.refl _) fun s₅ k₅ => ?_))
      show wpAny _ _ (execs (_ :: []) _) _ _ _
      obtain ⟨h5,tk5,rfl,kk5⟩:=k₅
      refine wpAny_execs_cons (wpAny_For (Zs S₃.e.n (hv4.ext kk5) (by decide) ?_) (by intro y; rfl))
      have pl5 : h5.PlainList L #[]:=pl4.at fun o e => kk5 L o e
      refine wpAny_pyIter_list pl5.isList ?_
      have hne : L ≠ h5.objs.size:=by obtain ⟨n,e⟩:=pl5; exact Nat.ne_of_lt (Heap.lt_size e)
      have W:=Walks.list (prog:=prog) (w:=w) R0.hh h5.objs.size L hne #[]
      refine codeAny_forLoop_any (fun n s' => s' = { heap:=h5.push { cls:=.type "list_iterator",data:=.fields #[.ref L,.int 0 0] },gens:=g3,drawn:=dr3,toks:=tk5,os:=os3 }) ?_ 0 rfl
      rintro n s' rfl
      refine W.done _ _ _ ⟨⟨_,Heap.get?_push_size _ rfl,rfl,rfl⟩,pl5.isList.push _⟩ fun h6 tk6 hk6 => ?_
      refine wpAny_execs_nil (wpAny_execs_nil (wpAny_execs_nil ⟨rfl, ?_⟩))
      have k46 : ∀ b o,h4.get? b = some o → h6.get? b = some o:=fun b o e => by
        have e5:=kk5 b o e
        refine hk6 b o (fun z => ?_) (Heap.get?_push_of_some _ e5)
        rw [List.mem_singleton.mp z] at e5
        exact absurd (Heap.lt_size e5) (Nat.lt_irrefl _)
      obtain ⟨h3',tk3',e3⟩:=S₃.same
      cases e3
      obtain ⟨o1,w1,w2,w3,w4,w5⟩:=hs4 ox0 hx3
      obtain ⟨d,hd1,hd2⟩:=KP (prog:=prog) (w:=w) (M:=M₁) (I4.keeps k46) hnx (fun d' o e1 e2 => by
        have:=k46 x o1 w1
        rw [this] at e1; cases e1
        rw [w5 dx hdx0] at e2; cases e2
        exact hnd)
      refine hQ x d _ ⟨h6,tk6,rfl,fun b o e => ?_⟩ hd1 hd2
      refine k46 b o (keep4 b o (fun z => ?_) (fun z => ?_) (ke k23 b o (ke kS b o (Mk.keeps b o e))))
      · exact Xf Mk.newX (by rw [← z]; exact e)
      · exact Xf Mk.newD (by rw [← z]; exact e)
noncomputable abbrev vM:=(zZ Wp).names
noncomputable abbrev Xl : Stmt:=(zC Wp).getD 1 (.Pass ⟨0,0,0,0⟩)
noncomputable abbrev kN:=(zZ Xl).names
noncomputable def yI (p : Str × Bool) : D:=.tup [.str p.1,.bool p.2]
noncomputable def xD (wants : List Str) (text : Str) : Bool:=wants.any fun want => wZ want text
noncomputable def wF (wants : List Str) (c : List (Str × Bool)) (d : D) : List (Str × Bool) × D:=match d with
 | .str t => (c ++ [(t,xD wants t)],.bool (xD wants t))
 | _ => (c,.none)
noncomputable def w0 (want got : Str) : Bool:=decide (want.length ≤ 1000) && decide (got.length ≤ 1000) && (decide (2 ≤ (zz want zT).length) || !inS zT want) && decide ((zz want zT).length ≤ 1000) && (zz want zT).all fun x => decide (x.length ≤ 1000)
structure YV (B : Heap) (mg mb : Str → Option Value) : Prop where
 G : Gl B mg mb
 len : mg "len" = none ∧ mb "len" = some (.builtin "len")
 mark : ∃ t,mg "ELLIPSIS_MARKER" = some (.str zT t)
 fn : ∃ f fd,zi B mg "_ellipsis_match" Z3 f fd ∧ ∀ a b s,BindsTo s fd ⟨[a,b],[]⟩ [(Str.ofString "want",a),(Str.ofString "got",b)]
theorem YV.ext {B' : Heap} (H : YV B mg mb) (X : zR B B') : YV B' mg mb:=by
 refine ⟨H.G.ext X,H.len,H.mark, ?_⟩
 obtain ⟨f,fd,h1,h2⟩:=H.fn
 exact ⟨f,fd,h1.ext X,h2⟩
theorem YV.call (H : YV B mg mb) : ∃ f fd,zi B mg "_ellipsis_match" Z3 f fd ∧ ∀ want got,w0 want got = true → zH prog w 1 B (.ref f) [.str want,.str got] (.bool (wZ want got)):=by
 obtain ⟨f,fd,h1,h2⟩:=H.fn
 refine ⟨f,fd,h1,fun want got hf => ?_⟩
 simp only [w0,Bool.and_eq_true,Bool.or_eq_true,decide_eq_true_eq,Bool.not_eq_true'] at hf
 obtain ⟨⟨⟨⟨g1,g2⟩,g3⟩,g4⟩,g5⟩:=hf
 refine zH.of_def H.G h1 [Str.ofString "want",Str.ofString "got"] (fun vs hl s => ?_) rfl (by decide) (by k_extra "kd") rfl (Qs H.G H.len H.mark want got g1 g2 g3 g4 fun x hx => by simpa using List.all_eq_true.mp g5 x hx)
 obtain ⟨a,b,rfl⟩:=zAa hl
 exact h2 a b s
theorem Js (H : YV B mg mb) {A : Around} {env : Env} {s s₁ : Shared} {M₁ Own M Own₀ : Addr → Prop} {ρ : List (Str × RV)} {La : Addr} {wants : List Str} {t : Str} {c : List (Str × Bool)} (R : Rm A 1) (hw : (Str.ofString "wants",.dat (.list (wants.map .str))) ∈ ρ) (ha : (Str.ofString "asked",.adr La) ∈ ρ)
  (hfit : ∀ want ∈ wants,w0 want t = true) (hc : c.length ≤ 1000) (hwl : wants.length ≤ 1000) (hOL : Own La)
  (S : St prog w B s Own₀ M₁ kN env Own M ((Str.ofString "text",.dat (.str t)) :: xV kN ρ) [(La,.list (c.map yI))] s₁) :
  wpAny (model prog w) A (execs (zC Xl) env) (fun fl s' => ∃ v ρ',fl = .ret v ∧ St prog w B s Own₀ M₁ kN env Own M ρ' [(La,.list ((c ++ [(t,xD wants t)]).map yI))] s' ∧ Rp prog w s'.heap M v (.bool (xD wants t))) (fun _ _ => False) s₁:=by
 have R0 : Rm A 0:=R.le (Nat.zero_le _)
 have G:=H.G
 obtain ⟨fe,fed,HE,hcall⟩:=H.call (prog:=prog) (w:=w)
 have S:=S.sub (ρ':=[(Str.ofString "text",.dat (.str t)),(Str.ofString "wants",.dat (.list (wants.map .str))),(Str.ofString "asked",.adr La)]) (by
  refine all_cons ?_ (all_cons ?_ (all_cons ?_ all_nil))
  · exact .head _
  · exact .tail _ (vc hw (by k_extra "kd"))
  · exact .tail _ (vc ha (by k_extra "kd")))
 k_extra "set"
 show wpAny _ _ (execs (_ :: _ :: _ :: []) env) _ _ _
 refine' xa (α:=Str) (σ:=Bool) S R0 ?qv wants .str ?src (fun y => [(Str.ofString "want",.dat (.str y))]) ?asg ?fs (fun b => [(Str.ofString "told",.dat (.bool b)),(Str.ofString "text",.dat (.str t)),(Str.ofString "wants",.dat (.list (wants.map .str))),(Str.ofString "asked",.adr La)]) (fun _ => [(La,.list (c.map yI))])
  (fun i b => b = xD (wants.take i) t) (fun _ _ _ => False) false ?hp0 ?rho rfl ?off ?turn ?done ?exit
 case qv => k_extra "z"
 case src => exact .list _
 case asg => exact fun y _ => wD.name (by k_extra "kd")
 case fs => k_extra "fs"
 case hp0 => rfl
 case rho => k_extra "sub"
 case off => intro c y; k_extra "kd"
 case exit => exact fun f c s' h _ => h.elim
 case turn =>
  clear S
  intro i y b M' s₂ hy hP hMM S
  have hym : y ∈ wants:=List.mem_of_getElem? hy
  have hnext : xD (wants.take (i + 1)) t = (b || wZ y t):=by
    rw [hP,List.take_add_one,hy]
    simp [xD]
  refine' yK (d:=.bool (b || wZ y t)) S ?sa ?sb rfl ?sd
  case sb => k_extra "kd"
  case sa =>
    refine' Ev.cast (Ev.or2 (d:=.bool b) (e:=.bool (wZ y t)) (b:=b) ?o1 (yq.bool b) ?o3) ?o4
    case o1 => k_extra "z"
    case o3 =>
     intro _
     refine' Ev.call S.e R ?qf ?K ?qx (hcall y t (hfit y hym))
     case qf => k_extra "z"
     case K => exact HE.keepy
     case qx => k_extra "z"
    case o4 => cases b <;> rfl
  case sd =>
    k_extra "next"
    refine zD ⟨b || wZ y t,_,_,S.sub ?q1,hnext.symm⟩
    case q1 => k_extra "sub"
 case done =>
  clear S
  intro b s' hP S
  rw [List.take_length] at hP
  subst hP
  refine zD ?_
  show wpAny _ _ (execs (_ :: _ :: []) env) _ _ _
  refine' vi (pre:=[]) (ds:=[.tup [.str t,.bool (xD wants t)]]) S R0 ?m1 ?m2 rfl hOL rfl ?m3 ?m4 ?m5 ?m6 (by rfl) (by rfl) (xI.append _ _ ?m7) ?m8
  case m1 => k_extra "mem"
  case m2 => k_extra "kd"
  case m3 => k_extra "pa"
  case m4 => k_extra "slot"
  case m5 => k_extra "mty"
  case m6 =>
    refine .cons (Ev.tuple S.e ?t1 (by rw [sizeLine_eq]; simp)) .nil (fun _ => rfl)
    case t1 => k_extra "z"
  case m7 => simp; rw [sizeLine_eq]; k_extra "o"
  case m8 =>
    k_extra "next"
    rw [List.nil_append,show (c.map yI ++ [D.tup [.str t,.bool (xD wants t)]]) = (c ++ [(t,xD wants t)]).map yI by simp [yI]] at S
    refine' xF (d:=.bool (xD wants t)) S ?ra (fun v s' S' r => ⟨v,_,rfl,S',r⟩)
    case ra => k_extra "z"
end
section
variable {prog : Program} {w : World} {A : Around} {B : Heap} {s₀ s : Shared} {Own₀ M₀ Own M : Addr → Prop} {names : zJ} {env : Env} {ρ : List (Str × RV)} {μ : List (Addr × D)} {k : Nat} {E : Value → Shared → Prop} {Q : Flow → Shared → Prop} {rest : List Stmt} {mg mb : Str → Option Value}
theorem qF (H : J1 B mg mb) {P L : Addr} {qs : List (Pos × Str)} {ps : Array Value} {os : List (Addr × Obj)} {xs ys : List D} {xd : D} {pre mid post : List (Addr × D)} (T : Tb B mg env P qs) (S : St prog w B s₀ Own₀ M₀ names env Own M ρ μ s) (hμ : μ = pre ++ (L,.list xs) :: mid ++ (P,.obs P (tabObj ps) os) :: post)
  (hOP : Own P) (hOL : Own L) (hT : yN qs ps os) (R : Rm A (k + 3)) {xv px : Str} {fp xp kp pos pos2 lpos : Pos} {e : Expr} {params : Arguments} {body : Expr} {scope : Scope} {step : D → D} (lt : D → Bool) (hxv : (xv,RV.adr L) ∈ ρ) (hdb : (xv == ("__debug__" : Str)) = false) (hgi : names.lookup (Str.ofString "insort_right") = some .globalImplicit)
  (he : Ev prog w A s.heap e env (PS prog w M xd)) (hst : ∀ rest,starEach (e :: rest) env = (false,eval e env) :: starEach rest env)
  (hq : (lpos,env.qual ++ "<lambda>") ∈ qs) (hdef : defaultsOf params env = ([],[])) (hc : yH names scope = true) (hf : qm scope = true) (hx : zY scope.names px = true)
  (hb : ∀ fd c' cl,Z6 fd params (.expr body) scope (env.qual ++ "<lambda>") c' cl → ∀ v s,BindsTo s fd ⟨[v],[]⟩ [(px,v)])
  (ev : ∀ d ∈ ys,∀ A env h M B',zR B B' → Rm A k → En prog w B' scope.names env h M ((px,.dat d) :: xV scope.names ρ) [] → Ev prog w A h body env (PS prog w M (step d)))
  (hxs : ∀ d ∈ xs,d ∈ ys) (hxd : xd ∈ ys) (hsz : xs.length ≤ 100000) (hcmp : ∀ d,d ∈ xs → zN prog w .Lt (step xd) (step d) (lt (step d)))
  (hs : swapsWith (.Call (.Name (Str.ofString "insort_right") fp) [.Name xv xp,e] [⟨some (Str.ofString "key"),.Lambda params body scope lpos,kp⟩] pos) none pos2.line env = pure false)
  (hQ : ∀ ps' os' s',yN qs ps' os' → St prog w B s₀ Own₀ M₀ names env Own M ρ (pre ++ (L,.list (qK (fun d => !lt (step d)) xs xd)) :: mid ++ (P,.obs P (tabObj ps') os') :: post) s' → wpAny (model prog w) A (execs rest env) Q E s') :
  wpAny (model prog w) A (execs (.Expr (.Call (.Name (Str.ofString "insort_right") fp) [.Name xv xp,e] [⟨some (Str.ofString "key"),.Lambda params body scope lpos,kp⟩] pos) pos2 :: rest) env) Q E s:=by
 obtain ⟨f,fd,t,HI,BI⟩:=H.ins
 subst hμ
 refine xk S.e.n ?_ hs
 refine xo (f:=.ref f) (rs:=[.adr L,.dat xd]) S.e (Ev.glob H.G S.e hgi (.inl HI.g) (by decide)) HI.keepy (.cons (Ev.var S.e hxv hdb) (.cons (r:=.dat xd) he .nil hst) fun _ => rfl) rfl fun vs s₁ k₁ rs => ?_
 refine zP.use2 rs fun v1 v2 r1 r2 => ?_
 have r1 : v1 = .ref L:=r1
 subst r1
 have S₁:=S.step k₁
 have eμ : pre ++ (L,D.list xs) :: mid ++ (P,D.obs P (tabObj ps) os) :: post = (pre ++ (L,D.list xs) :: mid) ++ (P,D.obs P (tabObj ps) os) :: post:=rfl
 refine XT T (pre:=pre ++ (L,D.list xs) :: mid) (post:=post) S₁ hOP hT hq hdef hc fun kf fo fd2 c' oc cl ps' os' s₂ hfd F hco hT' K S₂ rf ef => ?_
 obtain ⟨_,hfo,hfm,hcs⟩:=rf.obs_inv
 obtain ⟨hc1,hc2⟩:=hcs (c',oc) (.head _)
 have ML:=S₂.own L hOL
 have r2' : Rp prog w s₂.heap M v2 xd:=by
  obtain ⟨h2,tk2,rfl,kk⟩:=ef
  exact Rp.to (fun a o m e => ⟨kk a o (fun z => m (by rw [List.mem_singleton.mp z]; exact S.own P hOP)) e,m⟩) r2
 have XB : zR B (hideAll s₂.heap [L]):=xn (h:=s₂.heap) [L] S₂.e.base fun a z => by rw [List.mem_singleton.mp z]; exact S₂.base L hOL
 have nl : ∀ {a : Addr} {o : Obj},¬ M a → s₂.heap.get? a = some o → (hideAll s₂.heap [L]).get? a = some o:=fun {a o} m e => hideAll_get _ e fun z => m (by rw [List.mem_singleton.mp z]; exact ML)
 have KO : ya prog w (k + 1) (hideAll s₂.heap [L]) M kf ys (fun _ : Unit => True) (fun _ => []) (fun c d => (c,step d)):=by
  refine Zz (B₀:=B) (ρ:=ρ) F hf H.G.lim XB (nl hfm hfo) hfd ?_ (K.hide fun a z => ?_) (hb fd2 c' cl F) hx (fun d hd A env h M R' S' => ev d hd A env h M _ XB R' S')
  · obtain ⟨us,t',q1,q2⟩:=hco
    exact ⟨c',oc,us,t',rfl,nl hc2 hc1,q1,q2⟩
  · rw [List.mem_singleton.mp z]
    exact ⟨ML,fun v q => zn (S₂.e.mem L (.list xs) (List.mem_append_left _ (List.mem_append_right _ Q4))) q⟩
 refine ⟨S₂.e.base, ?_⟩
 refine YE (M₁:=M) H HI BI lt (R.le (by k_extra "o")) S₂.e.base S₂.e.old ML (S₂.base L hOL) hfd hfo hfm KO hxs hxd (S₂.e.mem L _ (List.mem_append_left _ (List.mem_append_right _ Q4))) r2' hsz hcmp fun s₃ ef3 c3 => ?_
 obtain ⟨h3,tk3,rfl,kk3⟩:=ef3
 refine hQ ps' os' _ hT' ?_
 have e2 : (pre ++ (L,D.list xs) :: mid) ++ (P,D.obs P (tabObj ps') os') :: post = pre ++ (L,D.list xs) :: (mid ++ (P,D.obs P (tabObj ps') os') :: post):=by simp
 rw [e2] at S₂
 have S₃:=S₂.effect1 (h':=h3) (tk:=tk3) rfl hOL (fun b o n e => kk3 b o (by simpa using n) e) c3
 have e3 : pre ++ (L,D.list (qK (fun d => !lt (step d)) xs xd)) :: (mid ++ (P,D.obs P (tabObj ps') os') :: post) = pre ++ (L,D.list (qK (fun d => !lt (step d)) xs xd)) :: mid ++ (P,D.obs P (tabObj ps') os') :: post:=by simp
 rw [e3] at S₃
 exact S₃
end
section
variable {prog : Program} {w : World} {B : Heap} {mg mb : Str → Option Value}
noncomputable def xS : Str:=Str.ofString "x"
noncomputable def aS : Str:=Str.ofString "a"
noncomputable def bS : Str:=Str.ofString "b"
noncomputable def eS : Str:=Str.ofString ""
noncomputable def Xm (n k : Int) (c : List Str × List Int) : List Str × List Int :=
 if (Builtin.bitAnd (n.fdiv (2 ^ k.toNat)) 1 == 0) = true then (c.1,c.2 ++ [k])
 else if c.2.isEmpty = true then c else ((c.1.set (c.2.getLast?.getD 0).toNat aS).set k.toNat bS,c.2.dropLast)
noncomputable def jZ (n : Int) : Nat → List Str × List Int
 | 0 => ([xS,xS,xS,xS],[])
 | k + 1 => Xm n k (jZ n k)
noncomputable def Vs (n : Int) : Str:=if ((n.fmod 2) != 0) = true then yY (wW eS (jZ n 4).1) else wW eS (jZ n 4).1
theorem WF (ws : List Int) : We (.list (ws.map .int)) (.list []) = ws.isEmpty:=by
 cases ws with
 | nil => rfl
 | cons x xs => simp [We,xb,wc,PyData.eqv,PyData.eqvAll]
theorem xZ (ws : List Int) : w8 8 (.list (ws.map .int)) = true:=by
 rw [xz,List.all_eq_true]
 intro d hd
 obtain ⟨i,_,rfl⟩:=List.mem_map.mp hd
 rfl
theorem WT {α β : Type} (f : α → β) (l : List α) (i : Nat) (x : α) : (l.map f).set i (f x) = (l.set i x).map f:=(List.map_set).symm
theorem W2 (G : Gl B mg mb) (hr : mg "range" = none ∧ mb "range" = some (.type "range")) (n : Int) (hj : yc eS (jZ n 4).1 = true) (hu : Builtin.Str.tooLong (yY (wW eS (jZ n 4).1)).cps.size = false) :
  jV prog w 0 B naS [Str.ofString "number"] [.int n] (.str (Vs n)):=by
 intro A s M₀ env Own M s₁ R X S
 simp only [List.zip_cons_cons,List.map_cons,List.map_nil,List.zip_nil_right] at S
 refine' jJ (els:=[.new (.list (k9 4 [.str xS])),.new (.list [])]) S R [(Str.ofString "marks",_),(Str.ofString "waiting",_)] rfl ?tx (by decide) (by k_extra "kd") rfl (by decide) (vJ _ (by rfl)) ?tk
 case tx =>
  refine' XI.cons (d:=.new (.list (k9 4 [.str xS]))) ?e1 (XI.cons (d:=.new (.list [])) ?e2 .nil (fun _ => rfl)) (fun _ => rfl)
  case e1 =>
    intro h M μ hE
    refine' jK.mul (i:=4) hE ?m1 ?m2 (by decide) (by decide) (by simp)
    case m1 | m2 => k_extra "z"
  case e2 =>
    intro h M μ hE
    k_extra "z"
 clear S
 intro m hm wt hw s' S
 k_extra "flat"
 have hne : m ≠ wt:=fun q => hw (.inr q.symm)
 refine' xa (α:=Int) (σ:=List Str × List Int) S R ?qv (wp 0 4 1) .int ?src (fun y => [(Str.ofString "k",.dat (.int y))]) ?asg ?fs (fun c => [(Str.ofString "number",.dat (.int n)),(Str.ofString "marks",.adr m),(Str.ofString "waiting",.adr wt)]) (fun c => [(wt,.list (c.2.map .int)),(m,.list (c.1.map .str))])
  (fun i c => c = jZ n i ∧ c.1.length = 4 ∧ c.2.length ≤ i ∧ ∀ x ∈ c.2,0 ≤ x ∧ x < 4) (fun f c _ => False) ([xS,xS,xS,xS],[]) ?hp0 ?rho rfl ?off ?turn ?done ?exit
 case qv => k_extra "z"
 case src => exact .rng rfl
 case asg => exact fun y _ => wD.name (by k_extra "kd")
 case fs => k_extra "fs"
 case hp0 => exact ⟨rfl,rfl,Nat.le_refl _,fun _ h => by cases h⟩
 case rho => k_extra "sub"
 case off => intro c y; k_extra "kd"
 case exit => exact fun f c s' h _ => h.elim
 case turn =>
  clear S
  intro i y c M' s₁ hy hP hMM S
  obtain rfl:=jH hy
  have hi : i < 4:=by
    have:=(List.getElem?_eq_some_iff.mp hy).1
    rw [zr] at this
    exact this
  obtain ⟨ms,ws⟩:=c
  obtain ⟨hP,hl,hwl,hwr⟩:=hP
  dsimp only at hl hwl hwr hP S
  have hstep : jZ n (i + 1) = Xm n i (ms,ws):=by rw [jZ,hP]
  unfold Xm at hstep
  k_extra "if"
  cases hb : (Builtin.bitAnd (n.fdiv (2 ^ (i : Int).toNat)) 1 == 0)
  · rw [hb] at hstep
    simp only [Bool.false_eq_true,if_false] at hstep ⊢
    show wpAny _ _ (execs (_ :: []) env) _ _ _
    refine' vF (b:=!We (.list (ws.map .int)) (.list [])) S ?it ?ik
    case it =>
     refine' Tv.cmp (R.le (Nat.zero_le _)) ?ql ?qr (zN.ne (xZ ws) (by rfl)) rfl
     case ql | qr => k_extra "z"
    case ik =>
     k_extra "next"
     rw [WF]
     cases hw0 : ws.isEmpty
     · rw [hw0] at hstep
       simp only [Bool.false_eq_true,if_false,Bool.not_false,if_true] at hstep ⊢
       obtain ⟨init,last,hws⟩ : ∃ init last,ws = init ++ [last]:=by
         refine ⟨ws.dropLast,ws.getLast (by intro q; rw [q] at hw0; cases hw0),(List.dropLast_concat_getLast _).symm⟩
       subst hws
       have hlast:=hwr last (by simp)
       rw [show ((init ++ [last]).getLast?.getD 0) = last by simp] at hstep
       rw [show (init ++ [last]).dropLast = init by simp] at hstep
       show wpAny _ _ (execs (_ :: _ :: []) env) _ _ _
       refine' XG (i:=last.toNat) (I:=last) (xs:=ms.map .str) (d:=.str aS) (pre:=[(wt,.list (init.map .int))]) (post:=[]) S ?x1 ?x2 ?x3 ?x4 rfl ?x5 ?x6 ?x7 ?x8 ?x9 ?x10
       case x1 => k_extra "mem"
       case x2 => k_extra "kd"
       case x3 | x4 => k_extra "z"
       case x5 =>
         clear S
         intro Q' s₂ S hQ'
         refine' Qg (pre:=[]) (post:=[(m,.list (ms.map .str))]) (d:=.list ((init ++ [last]).map .int)) (d':=.list (init.map .int)) (r:=.int last) (ds:=[]) S (R.le (Nat.zero_le 0)) ?y1 ?y2 rfl ?y3 rfl ?y4 ?y5 ?y6 ?y7 (by decide) (by rfl) ?y8 ?y9
         case y1 => k_extra "mem"
         case y2 => k_extra "kd"
         case y3 => k_extra "z"
         case y4 => k_extra "pa"
         case y5 => k_extra "slot"
         case y6 => k_extra "mty"
         case y7 => exact .nil
         case y8 =>
          rw [List.map_append]
          exact xI.pop _ _ (by simp at hwl ⊢; rw [sizeLine_eq]; k_extra "o")
         case y9 => exact fun v s' S' r => hQ' v s' S' r
       case x6 => k_extra "o"
       case x7 => simp; k_extra "o"
       case x8 => simp; rw [sizeLine_eq]; k_extra "o"
       case x9 => rfl
       case x10 =>
         k_extra "next"
         rw [WT] at S
         refine' Xj (i:=i) (I:=i) (xs:=(ms.set last.toNat aS).map .str) (d:=.str bS) (pre:=[(wt,.list (init.map .int))]) (post:=[]) S ?z1 ?z2 rfl ?z3 ?z4 ?z5 rfl ?z6 ?z7 ?z8 ?z9
         case z1 => k_extra "mem"
         case z2 => k_extra "kd"
         case z3 | z4 | z5 => k_extra "z"
         case z6 => simp; k_extra "o"
         case z7 => simp; rw [sizeLine_eq]; k_extra "o"
         case z8 => rfl
         case z9 =>
          k_extra "next"
          rw [WT] at S
          refine zD (zD (zD ⟨((ms.set last.toNat aS).set i bS,init),_,_,S.sub ?q1, ?q2, ?q3, ?q4, ?q5⟩))
          case q1 => k_extra "sub"
          case q2 => rw [hstep]; simp
          case q3 => simp; exact hl
          case q4 => simp at hwl ⊢; k_extra "o"
          case q5 => exact fun x hx => hwr x (by simp [hx])
     · rw [hw0] at hstep
       simp only [if_true,Bool.not_true,Bool.false_eq_true,if_false] at hstep ⊢
       refine zD (zD (zD ⟨(ms,ws),_,_,S.sub ?q1, ?q2, ?q3, ?q4, ?q5⟩))
       case q1 => k_extra "sub"
       case q2 => rw [hstep]
       case q3 => exact hl
       case q4 => exact Nat.le_succ_of_le hwl
       case q5 => exact hwr
  · rw [hb] at hstep
    simp only [if_true] at hstep ⊢
    show wpAny _ _ (execs (_ :: []) env) _ _ _
    refine' vi (pre:=[]) (ds:=[.int i]) S R ?m1 ?m2 rfl ?m3 rfl ?m4 ?m5 ?m6 ?m7 (by decide) (by rfl) (xI.append _ _ ?m8) ?m9
    case m1 => k_extra "mem"
    case m2 => k_extra "kd"
    case m3 => k_extra "z"
    case m4 => k_extra "pa"
    case m5 => k_extra "slot"
    case m6 => k_extra "mty"
    case m7 => k_extra "z"
    case m8 => simp; rw [sizeLine_eq]; k_extra "o"
    case m9 =>
     k_extra "next"
     rw [List.nil_append,show (ws.map D.int ++ [D.int (i : Int)]) = (ws ++ [(i : Int)]).map D.int by simp] at S
     refine zD (zD ⟨(ms,ws ++ [(i : Int)]),_,_,S.sub ?q1, ?q2, ?q3, ?q4, ?q5⟩)
     case q1 => k_extra "sub"
     case q2 => rw [hstep]
     case q3 => exact hl
     case q4 => simp; exact hwl
     case q5 =>
       intro x hx
       rcases List.mem_append.mp hx with hx | hx
       · exact hwr x hx
       · cases List.mem_singleton.mp hx; k_extra "o"
 case done =>
  clear S
  intro c s' hP S
  obtain ⟨hP,hl,_⟩:=hP
  have hP : c = jZ n 4:=hP
  subst hP
  refine zD ?_
  refine' WP S (d:=if ((n.fmod 2) != 0) = true then .str (yY (wW eS (jZ n 4).1)) else .str (wW eS (jZ n 4).1)) ?ra ?rb
  case ra =>
    refine' Ev.ifExp ?fit ?fix ?fiy
    case fit => k_extra "z"
    case fix =>
     intro _
     k_extra "z"
    case fiy =>
     intro _
     k_extra "z"
  case rb => rw [Vs]; split <;> rfl
end
noncomputable def jp (x : Str) : Int:=(Builtin.Str.occurrences x xS 0 x.length (x.length + 1)).length
noncomputable def Y0 (x : Str) (xs : List Str) : List Str :=
 xs.take (w7 (fun d => !(match d with | .str y => decide (jp x < jp y) | _ => false)) (xs.map .str)) ++ x :: xs.drop (w7 (fun d => !(match d with | .str y => decide (jp x < jp y) | _ => false)) (xs.map .str))
noncomputable def yb (kinds : List Str) (name : Str) : List Str:=if kinds.contains (zX name) = true then kinds else Y0 (zX name) kinds
noncomputable def xL (names : List Str) : List Str:=names.foldl yb []
noncomputable def xB : List Str → List Bool → Str → Option Bool
 | k :: ks,b :: bs,x => if k = x then some b else xB ks bs x
 | _,_,_ => none
noncomputable def WI (ks : List Str) (bs : List Bool) (x : Str) (b : Bool) : List Bool:=if ks.contains x then (ks.zip bs).map (fun p => if p.1 = x then b else p.2) else bs ++ [b]
noncomputable abbrev KB:=List Str × List Bool
noncomputable def yg (kb : KB) (x : Str) (b : Bool) : KB:=(jw kb.1 x,WI kb.1 kb.2 x b)
noncomputable def xy (texts : List Str) (number : Nat) (told : Bool) (kb : KB) (other : Nat) : KB :=
 if (Builtin.bitAnd (other : Int) (number : Int) == (if told then (number : Int) else (other : Int))) = true then yg kb (texts.getD other (Str.ofString "")) told else kb
noncomputable def yU (texts : List Str) (number : Nat) (told : Bool) (n : Nat) (kb : KB) : KB:=(List.range n).foldl (xy texts number told) kb
noncomputable def zu (texts : List Str) (l : List (Str × Bool)) (kb : KB) : KB:=l.foldl (fun kb p => yU texts (texts.idxOf p.1) p.2 16 kb) kb
noncomputable def zB (ys : List (Str × Str)) (kind : Str) : List Str:=(ys.filter fun y => zX y.1 == zX (yY kind)).map fun y => y.2
noncomputable def zo (kb : KB) (b : Bool) (chain : List Str) : Nat:=(chain.filter fun t => xB kb.1 kb.2 t == some b).length
structure xC where
 chains : List D
 kb : KB
 asked : List (Str × Bool)
noncomputable abbrev vK (st : xC) : Str × RV:=(Str.ofString "known",.dat (.dct st.kb.1 (st.kb.2.map .bool)))
noncomputable abbrev vC (st : xC) : Str × RV:=(Str.ofString "chains",.dat (.list st.chains))
noncomputable abbrev vA (st : xC) : Str × RV:=(Str.ofString "asked",.dat (.list (st.asked.map yI)))
noncomputable def kK (wants : List Str) (c : List (Str × Bool)) (d : D) : List (Str × Bool) × Bool:=((wF wants c d).1,match (wF wants c d).2 with | .bool b => !b | _ => false)
noncomputable def zp (wants : List Str) (kb : KB) (chain : List Str) (asked : List (Str × Bool)) : List (Str × Bool) × Nat :=
 zg (kK wants) (chain.map .str) ((chain.length - zo kb true chain) - zo kb false chain) (zo kb false chain) (chain.length - zo kb true chain) asked
noncomputable def yf (ys : List (Str × Str)) (texts wants : List Str) (st : xC) (kind : Str) : xC :=
 { chains:=st.chains ++ [.tup [.str kind,.list ((zB ys kind).map .str),.int (((zB ys kind).length : Int) - (zo st.kb true (zB ys kind) : Int) - (zo st.kb false (zB ys kind) : Int)),.int (((zp wants st.kb (zB ys kind) st.asked).1.length : Int) - (st.asked.length : Int)),.int ((zp wants st.kb (zB ys kind) st.asked).2 : Int)]],kb:=zu texts ((zp wants st.kb (zB ys kind) st.asked).1.drop st.asked.length) st.kb,asked:=(zp wants st.kb (zB ys kind) st.asked).1 }
noncomputable def xG (ys : List (Str × Str)) (texts wants : List Str) : xC:=(xL (ys.map (·.1))).foldl (yf ys texts wants) ⟨[],([],[]),[]⟩
theorem Xd (ks : List Str) (bs : List Bool) (x : Str) (b : Bool) : ZS ks (bs.map .bool) x (.bool b) = (WI ks bs x b).map .bool:=by
 unfold ZS WI
 split
 · rw [List.zip_map_right,List.map_map,List.map_map]
   refine List.map_congr_left fun p _ => ?_
   simp only [Function.comp_def,Prod.map]
   by_cases h : p.1 = x
   · simp [h]
   · simp [h]
 · simp
theorem jb (x : Str) : ∀ (ks : List Str) (bs : List Bool),v8 ks (bs.map .bool) x = (xB ks bs x).map .bool
 | [],bs => by cases bs <;> rfl
 | k :: ks,[] => rfl
 | k :: ks,b :: bs => by
  rw [List.map_cons,v8,xB]
  split
  · rfl
  · exact jb x ks bs
theorem Yr (kb : KB) (x : Str) (b : Bool) : (yg kb x b).1.length ≤ kb.1.length + 1:=by
 unfold yg jw
 dsimp only
 split
 · k_extra "o"
 · simp
theorem ve (texts : List Str) (number : Nat) (told : Bool) (n : Nat) (kb : KB) : (yU texts number told n kb).1.length ≤ kb.1.length + n:=by
 unfold yU
 induction n with
 | zero => simp
 | succ n ih =>
  rw [List.range_succ,List.foldl_append,List.foldl_cons,List.foldl_nil]
  rw [show ∀ kb' : KB,xy texts number told kb' n = if (Builtin.bitAnd (n : Int) (number : Int) == (if told then (number : Int) else (n : Int))) = true then yg kb' (texts.getD n (Str.ofString "")) told else kb' from fun _ => rfl]
  by_cases hc : (Builtin.bitAnd (n : Int) (number : Int) == (if told then (number : Int) else (n : Int))) = true
  · rw [if_pos hc]
    have:=Yr (List.foldl (xy texts number told) kb (List.range n)) (texts.getD n (Str.ofString "")) told
    k_extra "o"
  · rw [if_neg hc]; k_extra "o"
theorem kF {τ : Type} {go : τ → D → τ × Bool} {xs : List D} (I : Nat → τ → Prop) (hI : ∀ n c d,I (n + 1) c → d ∈ xs → I n (go c d).1) (hm : ∀ n m c,m ≤ n → I n c → I m c) : ∀ (n lo hi : Nat) (c : τ),hi ≤ xs.length → I n c → I 0 (zg go xs n lo hi c).1
 | 0,_,_,_,_,h => h
 | n + 1,lo,hi,c,hh,h => by
  simp only [zg]
  split
  · rename_i hlt
    have hmid : (lo + hi) / 2 < xs.length:=by k_extra "o"
    have hd : xs.getD ((lo + hi) / 2) .none ∈ xs:=by
      rw [List.getD_eq_getElem?_getD,List.getElem?_eq_getElem hmid]
      exact List.getElem_mem hmid
    have:=hI n c _ h hd
    split
    · exact kF I hI hm n _ _ _ hh this
    · exact kF I hI hm n _ _ _ (by k_extra "o") this
  · exact hm _ _ _ (Nat.zero_le _) h
theorem Ve (kb : KB) (b : Bool) (chain : List Str) : zo kb b chain ≤ chain.length:=List.length_filter_le _ _
theorem kU (wants : List Str) (kb : KB) (chain : List Str) (asked : List (Str × Bool)) : (zp wants kb chain asked).1.length ≤ asked.length + chain.length ∧ asked.length ≤ (zp wants kb chain asked).1.length ∧ ∀ p ∈ (zp wants kb chain asked).1,p ∈ asked ∨ p.1 ∈ chain:=by
 have hl : (chain.length - zo kb true chain) ≤ (chain.map D.str).length:=by simp
 have h:=kF (go:=kK wants) (xs:=chain.map .str) (fun n c => c.length + n ≤ asked.length + chain.length ∧ asked.length ≤ c.length ∧ ∀ p ∈ c,p ∈ asked ∨ p.1 ∈ chain) (fun n c d hc hd => ?_) (fun n m c hmn hc => ⟨by k_extra "o",hc.2⟩) ((chain.length - zo kb true chain) - zo kb false chain) (zo kb false chain) (chain.length - zo kb true chain) asked hl ⟨by k_extra "o",Nat.le_refl _,fun p hp => .inl hp⟩
 · exact ⟨by have:=h.1; unfold zp; k_extra "o",h.2⟩
 · obtain ⟨t,ht,rfl⟩:=List.mem_map.mp hd
   obtain ⟨hc1,hc2,hc3⟩:=hc
   refine ⟨by simp [kK,wF]; k_extra "o",by simp [kK,wF]; k_extra "o",fun p hp => ?_⟩
   simp only [kK,wF,List.mem_append,List.mem_singleton] at hp
   rcases hp with hp | rfl
   · exact hc3 p hp
   · exact .inr ht
theorem jd (x : Str) : ∀ (xs : List Str) (i : Nat),i < xs.idxOf x → xs[i]? ≠ some x
 | [],i,h => by simp at h
 | y :: ys,i,h => by
  rw [List.idxOf_cons] at h
  by_cases hy : y = x
  · subst hy; simp at h
  · have hy' : (y == x) = false:=by simpa using hy
    rw [hy'] at h
    simp only [cond_false] at h
    cases i with
    | zero => simpa using hy
    | succ i =>
     rw [List.getElem?_cons_succ]
     exact jd x ys i (by simpa using h)
section
variable {prog : Program} {w : World} {A : Around} {B : Heap} {s₀ s : Shared} {Own₀ M₀ Own M : Addr → Prop} {env : Env} {Q : Flow → Shared → Prop} {E : Value → Shared → Prop} {rest : List Stmt} {mg mb : Str → Option Value} {mN : Str → Option Value} {C N : Addr}
noncomputable abbrev zAP (i : Nat) : Stmt:=(zC Wp).getD i Jy
noncomputable abbrev zAq (i : Nat) : Stmt:=(X8 (zAP 3)).getD i Jy
structure VO (B : Heap) (mg mb : Str → Option Value) (C N : Addr) (mN : Str → Option Value) : Prop where
 hdr : qX B mg mb C N mN
 ell : YV B mg mb
 bis : J1 B mg mb
 bm : Bm B mg
 range : mg "range" = none ∧ mb "range" = some (.type "range")
 sys : B.get? sysModules ≠ none
theorem Vg {texts : List Str} {i : Nat} (h : i < texts.length) : (texts.map D.str)[i]? = some (.str (texts.getD i (Str.ofString ""))):=by
 rw [List.getElem?_map,List.getElem?_eq_getElem h,List.getD_eq_getElem?_getD,List.getElem?_eq_getElem h]; rfl
theorem Wk (G : Gl B mg mb) (hr : mg "range" = none ∧ mb "range" = some (.type "range")) {kn ch ak P Lr : Addr} {st : xC} {ps : Array Value} {os : List (Addr × Obj)} {ys : List (Str × Str)} {done : Nat} {fa bk : D} {texts wants chain : List Str} {cut high low : Int} {kind : Str}
  (R : Rm A 0) (hkn : Own kn) (hdl : done ≤ st.asked.length) (hal : st.asked.length ≤ 1000) (h16 : texts.length = 16) (hin : ∀ p ∈ st.asked,p.1 ∈ texts) (hkb : st.kb.1.length + 16 * (st.asked.length - done) ≤ 100000)
  (S : St prog w B s₀ Own₀ M₀ vM env Own M [(Str.ofString "cut",.dat (.int cut)),(Str.ofString "done",.dat (.int done)),(Str.ofString "high",.dat (.int high)),(Str.ofString "low",.dat (.int low)),(Str.ofString "chain",.dat (.list (chain.map .str))),(Str.ofString "kind",.dat (.str kind)),(Str.ofString "known",.adr kn),(Str.ofString "chains",.adr ch),(Str.ofString "asked",.adr ak),(Str.ofString "_law_ask",.dat fa),(Str.ofString "book",.dat bk),(Str.ofString "texts",.dat (.list (texts.map .str))),(Str.ofString "wants",.dat (.list (wants.map .str)))]
   [(kn,.dct st.kb.1 (st.kb.2.map .bool)),(ch,.list st.chains),(ak,.list (st.asked.map yI)),(P,.obs P (tabObj ps) os),(Lr,za ys)] s)
  (hQ : ∀ s',St prog w B s₀ Own₀ M₀ vM env Own M [(Str.ofString "cut",.dat (.int cut)),(Str.ofString "done",.dat (.int done)),(Str.ofString "high",.dat (.int high)),(Str.ofString "low",.dat (.int low)),(Str.ofString "chain",.dat (.list (chain.map .str))),(Str.ofString "kind",.dat (.str kind)),(Str.ofString "known",.adr kn),(Str.ofString "chains",.adr ch),(Str.ofString "asked",.adr ak),(Str.ofString "_law_ask",.dat fa),(Str.ofString "book",.dat bk),(Str.ofString "texts",.dat (.list (texts.map .str))),(Str.ofString "wants",.dat (.list (wants.map .str)))]
   [(kn,.dct (zu texts (st.asked.drop done) st.kb).1 ((zu texts (st.asked.drop done) st.kb).2.map .bool)),(ch,.list st.chains),(ak,.list (st.asked.map yI)),(P,.obs P (tabObj ps) os),(Lr,za ys)] s' → wpAny (model prog w) A (execs rest env) Q E s') :
  wpAny (model prog w) A (execs (zAq 5 :: rest) env) Q E s:=by
 have hld : (st.asked.drop done).length = st.asked.length - done:=List.length_drop
 refine' xa (α:=Str × Bool) (σ:=KB) S R ?qv (dsrc:=.list ((st.asked.drop done).map yI)) (st.asked.drop done) yI ?src (fun y => [(Str.ofString "text",.dat (.str y.1)),(Str.ofString "told",.dat (.bool y.2))]) ?asg ?fs
  (fun _ => [(Str.ofString "cut",.dat (.int cut)),(Str.ofString "done",.dat (.int done)),(Str.ofString "high",.dat (.int high)),(Str.ofString "low",.dat (.int low)),(Str.ofString "chain",.dat (.list (chain.map .str))),(Str.ofString "kind",.dat (.str kind)),(Str.ofString "known",.adr kn),(Str.ofString "chains",.adr ch),(Str.ofString "asked",.adr ak),(Str.ofString "_law_ask",.dat fa),(Str.ofString "book",.dat bk),(Str.ofString "texts",.dat (.list (texts.map .str))),(Str.ofString "wants",.dat (.list (wants.map .str)))])
  (fun kb => [(kn,.dct kb.1 (kb.2.map .bool)),(ch,.list st.chains),(ak,.list (st.asked.map yI)),(P,.obs P (tabObj ps) os),(Lr,za ys)])
  (fun i kb => kb = zu texts ((st.asked.drop done).take i) st.kb ∧ kb.1.length ≤ st.kb.1.length + 16 * i) (fun _ _ _ => False) st.kb ?hp0 ?rho rfl ?off ?turn ?done ?exit
 case qv =>
  refine' Ev.cast (Ev.slice (xs:=st.asked.map yI) (lo:=some (done : Int)) (hi:=none) (st:=none) S.e ?v1 ?v2 zd.none zd.none (by decide) ?v3) ?v4
  case v1 | v2 => k_extra "z"
  case v3 => rw [List.length_map,sizeLine_eq]; k_extra "o"
  case v4 => rw [Xp _ _ (by simpa using hdl),List.map_drop]
 case src => exact .list _
 case asg =>
  intro y _
  refine wD.tuple [(Str.ofString "text",_),(Str.ofString "told",_)] rfl (by decide) (by k_extra "kd") rfl
 case fs => k_extra "fs"
 case hp0 => exact ⟨rfl,Nat.le_refl _⟩
 case rho => exact fun _ _ h => h
 case off => intro c y; k_extra "kd"
 case exit => exact fun f c s' h _ => h.elim
 case done =>
  clear S
  intro kb s' hP S
  obtain ⟨hP,_⟩:=hP
  rw [List.take_length] at hP
  subst hP
  exact zD (hQ s' S)
 case turn =>
  clear S hQ
  intro i y kb M' s₁ hy hP hMM S
  obtain ⟨hP,hlen⟩:=hP
  have hym : y ∈ st.asked:=List.mem_of_mem_drop (List.mem_of_getElem? hy)
  have hi : i < st.asked.length - done:=by rw [← hld]; exact (List.getElem?_eq_some_iff.mp hy).1
  have hyt:=hin y hym
  have hidx : texts.idxOf y.1 < texts.length:=List.idxOf_lt_length_of_mem hyt
  have hnext : zu texts ((st.asked.drop done).take (i + 1)) st.kb = yU texts (texts.idxOf y.1) y.2 16 kb:=by
   rw [List.take_add_one,hy,hP]
   simp [zu]
  show wpAny _ _ (execs (_ :: _ :: []) env) _ _ _
  refine' yK (d:=.int (texts.idxOf y.1 : Nat)) S ?sa ?sb rfl ?sd
  case sb => k_extra "kd"
  case sa =>
   refine' Ev.meth S.e R ?qo ?T F.plainAttrs_list PySem.F.slot_list_index PySem.F.type_list_index ?qx ?qb ?qf ?ql (zH.index texts y.1 _ ?c1 ?c2 (by k_extra "o"))
   case qo => k_extra "z"
   case T => rfl
   case qx => k_extra "z"
   case qb => rfl
   case qf => decide
   case ql => rfl
   case c1 => rw [List.getElem?_eq_getElem hidx,List.getElem_idxOf hidx]
   case c2 => exact fun j hj => jd _ _ _ hj
  case sd =>
   k_extra "next"
   show wpAny _ _ (execs (_ :: []) env) _ _ _
   refine' xa (α:=Int) (σ:=KB) S R ?qv (wp 0 16 1) .int ?src (fun y => [(Str.ofString "other",.dat (.int y))]) ?asg ?fs
    (fun _ => [(Str.ofString "number",.dat (.int (texts.idxOf y.1 : Nat))),(Str.ofString "text",.dat (.str y.1)),(Str.ofString "told",.dat (.bool y.2)),(Str.ofString "cut",.dat (.int cut)),(Str.ofString "done",.dat (.int done)),(Str.ofString "high",.dat (.int high)),(Str.ofString "low",.dat (.int low)),(Str.ofString "chain",.dat (.list (chain.map .str))),(Str.ofString "kind",.dat (.str kind)),(Str.ofString "known",.adr kn),(Str.ofString "chains",.adr ch),(Str.ofString "asked",.adr ak),(Str.ofString "_law_ask",.dat fa),(Str.ofString "book",.dat bk),(Str.ofString "texts",.dat (.list (texts.map .str))),(Str.ofString "wants",.dat (.list (wants.map .str)))])
    (fun kb => [(kn,.dct kb.1 (kb.2.map .bool)),(ch,.list st.chains),(ak,.list (st.asked.map yI)),(P,.obs P (tabObj ps) os),(Lr,za ys)])
    (fun j kb' => kb' = yU texts (texts.idxOf y.1) y.2 j kb) (fun _ _ _ => False) kb ?hp0 ?rho rfl ?off ?turn ?done ?exit
   case qv => k_extra "z"
   case src => exact .rng rfl
   case asg => exact fun y _ => wD.name (by k_extra "kd")
   case fs => k_extra "fs"
   case hp0 => rfl
   case rho => k_extra "sub"
   case off => intro c y; k_extra "kd"
   case exit => exact fun f c s' h _ => h.elim
   case done =>
    clear S
    intro kb' s' hP' S
    rw [zr] at hP'
    refine zD (zD ⟨kb',_,_,S.sub ?q1, ?q2⟩)
    case q1 =>
     intro x r hm
     exact .tail _ (.tail _ (.tail _ hm))
    case q2 =>
     have hP' : kb' = yU texts (texts.idxOf y.1) y.2 16 kb:=hP'
     refine ⟨by rw [hnext,hP'], ?_⟩
     have:=ve texts (texts.idxOf y.1) y.2 16 kb
     rw [hP']; k_extra "o"
   case turn =>
    clear S
    intro j z kb' M'' s₃ hz hP' hMM' S
    obtain rfl:=jH hz
    have hj : j < 16:=by
     have:=(List.getElem?_eq_some_iff.mp hz).1
     rw [zr] at this
     exact this
    have hlen' : kb'.1.length ≤ kb.1.length + j:=by rw [hP']; exact ve _ _ _ _ _
    have hstep : yU texts (texts.idxOf y.1) y.2 (j + 1) kb = xy texts (texts.idxOf y.1) y.2 kb' j:=by
     rw [hP']; unfold yU; rw [List.range_succ,List.foldl_append]; rfl
    unfold xy at hstep
    refine' vF (b:=Builtin.bitAnd (j : Int) (texts.idxOf y.1 : Nat) == (if y.2 then ((texts.idxOf y.1 : Nat) : Int) else (j : Int))) S ?it ?ik
    case it =>
     refine' Tv.cmp (R.le (Nat.zero_le _)) ?ql ?qr (zN.eqI _ _) rfl
     case ql => k_extra "z"
     case qr =>
       refine' Ev.rd (Ev.cast (Ev.ifExp (b:=y.2) (d:=.int (texts.idxOf y.1 : Nat)) (e:=.int j) ?i1 ?i2 ?i3) ?i4)
       case i1 => k_extra "z"
       case i2 | i3 => intro _; k_extra "z"
       case i4 => cases y.2 <;> rfl
    case ik =>
     k_extra "next"
     cases hb : (Builtin.bitAnd (j : Int) (texts.idxOf y.1 : Nat) == (if y.2 then ((texts.idxOf y.1 : Nat) : Int) else (j : Int)))
     · rw [hb] at hstep
       simp only [Bool.false_eq_true,if_false] at hstep ⊢
       refine zD (zD ⟨kb',_,_,S.sub ?q1,hstep.symm⟩)
       case q1 => exact fun _ _ hm => .tail _ hm
     · rw [hb] at hstep
       simp only [if_true] at hstep ⊢
       show wpAny _ _ (execs (_ :: []) env) _ _ _
       refine' YU (pre:=[]) (ks:=kb'.1) (ds:=kb'.2.map .bool) (y:=texts.getD j (Str.ofString "")) (d:=.bool y.2) S ?x1 ?x2 rfl hkn ?x3 ?x4 (by k_extra "o") ?x5 ?x6
       case x1 => k_extra "mem"
       case x2 => k_extra "kd"
       case x3 => k_extra "z"
       case x4 =>
        refine' Ev.rd (Ev.item (i:=(j : Int)) ?y1 ?y2 ?y3 ?y4 ?y5)
        case y1 | y2 => k_extra "z"
        case y3 | y4 => k_extra "o"
        case y5 => exact Vg (by k_extra "o")
       case x5 => rfl
       case x6 =>
        k_extra "next"
        have e : ZS kb'.1 (kb'.2.map .bool) (texts.getD j (Str.ofString "")) (.bool y.2) = (yg kb' (texts.getD j (Str.ofString "")) y.2).2.map .bool:=Xd _ _ _ _
        rw [e] at S
        have S2:=S.sub (ρ':=_) (fun _ _ hm => List.Mem.tail _ hm)
        exact zD (zD ⟨yg kb' (texts.getD j (Str.ofString "")) y.2,_,_,S2,hstep.symm⟩)
theorem wY {x : Str} {params : Arguments} {fd : FuncData} {body : FuncBody} {scope : Scope} {qual : Str} {c' : Addr} {cl : List (Str × Addr)} (F : Z6 fd params body scope qual c' cl)
  (h : ∀ (fd : FuncData) (v : Value),fd.params = params → fd.defaults = .none → fd.kwdefaults = .none → bindArgs fd ⟨[v],[]⟩ = pure [(x,v)]) (v : Value) (s : Shared) : BindsTo s fd ⟨[v],[]⟩ [(x,v)]:=by
 intro M A E Q hQ
 rw [h fd v F.par F.dfl F.kwd]
 exact wpAny_pure hQ
structure Jv (env : Env) (f : Addr) (fo : Obj) (c' : Addr) (oc : Obj) : Prop where
 fn : ∃ fd cl,fo.data = .func fd ∧ Z6 fd (wx Xl) (.stmts (zC Xl)) (zZ Xl) (qualnameIn env (Str.ofString "_law_ask") (Str.ofString "_law_ask")) c' cl ∧
  (∀ x c,cl.lookup x = some c → env.cells.lookup x = some c) ∧ (∀ x,(x,NameKind.free) ∈ (zZ Xl).names → (cl.lookup x).isSome = true)
 co : vV oc (qualnameIn env (Str.ofString "_law_ask") (Str.ofString "_law_ask"))
noncomputable def wa (x : Str) : Bool:=!Builtin.Str.tooLong (yY x).cps.size && xi (yY x) && yy yV (zX (yY x)) && decide ((zX (yY x)).cps.size < 2 ^ 63)
theorem WW (kb : KB) (x : Str) (b : Bool) : isD ((v8 kb.1 (kb.2.map .bool) x).getD .none) (.bool b) = some (xB kb.1 kb.2 x == some b):=by
 rw [jb]
 cases xB kb.1 kb.2 x with
 | none => rfl
 | some a => cases a <;> cases b <;> rfl
theorem QF (H : VO B mg mb C N mN) {kn ch ak P Lr : Addr} {st : xC} {ps : Array Value} {os : List (Addr × Obj)} {ys : List (Str × Str)} {f c' : Addr} {fo oc : Obj} {bk : D} {texts wants : List Str} {kind : Str}
  (R : Rm A 3) (hkn : Own kn) (hch : Own ch) (hak : Own ak) (hF : Jv env f fo c' oc) (hI : qY prog w bk C Lr) (hal : st.asked.length + ys.length ≤ 900) (h16 : texts.length = 16) (hin : ∀ p ∈ st.asked,p.1 ∈ texts) (hkb : st.kb.1.length + 16 * ys.length ≤ 100000) (hchl : st.chains.length ≤ 1000) (hys : ys.length ≤ 100)
  (hyt : ∀ y ∈ ys,y.2 ∈ texts) (hyl : ∀ y ∈ ys,xi y.1 = true) (hk : wa kind = true) (hfit : ∀ want ∈ wants,∀ t ∈ texts,w0 want t = true) (hwl : wants.length ≤ 1000)
  (S : St prog w B s₀ Own₀ M₀ vM env Own M [(Str.ofString "kind",.dat (.str kind)),(Str.ofString "known",.adr kn),(Str.ofString "chains",.adr ch),(Str.ofString "asked",.adr ak),(Str.ofString "_law_ask",.dat (.obs f fo [(c',oc)])),(Str.ofString "book",.dat bk),(Str.ofString "texts",.dat (.list (texts.map .str))),(Str.ofString "wants",.dat (.list (wants.map .str)))]
   [(kn,.dct st.kb.1 (st.kb.2.map .bool)),(ch,.list st.chains),(ak,.list (st.asked.map yI)),(P,.obs P (tabObj ps) os),(Lr,za ys)] s)
  (hQ : ∀ s',St prog w B s₀ Own₀ M₀ vM env Own M [(Str.ofString "known",.adr kn),(Str.ofString "chains",.adr ch),(Str.ofString "asked",.adr ak),(Str.ofString "_law_ask",.dat (.obs f fo [(c',oc)])),(Str.ofString "book",.dat bk),(Str.ofString "texts",.dat (.list (texts.map .str))),(Str.ofString "wants",.dat (.list (wants.map .str)))]
   [(kn,.dct (yf ys texts wants st kind).kb.1 ((yf ys texts wants st kind).kb.2.map .bool)),(ch,.list (yf ys texts wants st kind).chains),(ak,.list ((yf ys texts wants st kind).asked.map yI)),(P,.obs P (tabObj ps) os),(Lr,za ys)] s' → Q .next s') :
  wpAny (model prog w) A (execs (X8 (zAP 3)) env) Q E s:=by
 have R0 : Rm A 0:=R.le (Nat.zero_le _)
 have G:=H.hdr.G
 have hlen:=H.bis.len
 simp only [wa,Bool.and_eq_true,Bool.not_eq_true',decide_eq_true_eq] at hk
 obtain ⟨⟨⟨hk1,hk2⟩,hk3⟩,hk4⟩:=hk
 have hcl : (zB ys kind).length ≤ ys.length:=by unfold zB; rw [List.length_map]; exact List.length_filter_le _ _
 have hct : ∀ t ∈ zB ys kind,t ∈ texts:=by
  intro t ht
  obtain ⟨y,hy,rfl⟩:=List.mem_map.mp ht
  exact hyt y (List.mem_filter.mp hy).1
 show wpAny _ _ (execs (_ :: _ :: _ :: _ :: _ :: _ :: _ :: []) env) _ _ _
 refine' yK (d:=.list ((zB ys kind).map .str)) S ?sa ?sb rfl ?sd
 case sb => k_extra "kd"
 case sa =>
  obtain ⟨gf,gfd,g1,g2,g3⟩:=H.hdr.gall
  refine' Ev.imeth (rs:=[.dat (.str (yY kind))]) S.e ?qo hI H.hdr.cls g1 g2 H.hdr.nga H.hdr.nge Wv ?hsh ?hx ?hcall rfl
  case qo => k_extra "z"
  case hsh => exact if_neg (by decide)
  case hx =>
   refine' .cons (r:=.dat (.str (yY kind))) ?x1 .nil (fun _ => rfl)
   case x1 => k_extra "z"
  case hcall =>
   intro x vs s₂ E2 Q2 X1 old2 X2 rx rvs hq
   refine zP.use1 rvs fun v r1 => ?_
   refine VN H.hdr g2 g3 (ys:=ys) (nm:=yY kind) (R.le (by decide)) X2 old2 hI rx r1 ((S.e.mem Lr _ j5).ext X1) (by k_extra "o") hk2 hk3 hk4 hyl fun v s' ks rv => hq v s' ks ?_
   have e : (zB ys kind).map D.str = ((ys.filter fun y => zX y.1 == zX (yY kind)).map fun y => D.str y.2):=by
    unfold zB; rw [List.map_map]; rfl
   rw [e]; exact rv
 case sd =>
  k_extra "next"
  refine' yK (d:=.int (zo st.kb false (zB ys kind) : Nat)) S ?sa ?sb rfl ?sd
  case sb => k_extra "kd"
  case sa =>
   refine' Ev.cast (Ev.call S.e R0 ?f0 ?K0 (xJ.cons ?x0 xJ.nil (fun _ => rfl)) (zH.lenL (((zB ys kind).filter fun t => xB st.kb.1 st.kb.2 t == some false).map .str) ?z0)) ?q0
   case f0 | K0 => k_extra "z"
   case z0 => rw [List.length_map,sizeLine_eq]; exact Nat.le_trans (List.length_filter_le _ _) (by k_extra "o")
   case q0 => rw [List.length_map]; rfl
   case x0 =>
    refine' Ev.rd (Ev.comp1F (α:=Str) S.e R0 ?hca ?srca (zB ys kind) .str (zb.list _) (fun t => xB st.kb.1 st.kb.2 t == some false) .str ?hxa (by rw [sizeLine_eq]; k_extra "o") ?fsa ?turna)
    case hca => k_extra "kd"
    case srca => k_extra "z"
    case hxa => k_extra "kd"
    case fsa => k_extra "fs"
    case turna =>
     intro t ht env' h' M' kx hE
     refine ⟨xO.one ?ta,fun _ => ?ea⟩
     case ta =>
      refine' Tv.cmp R0 (Ev.rd (Ev.meth hE R0 ?oa ?Ta F.plainAttrs_dict F.slot_dict_get F.type_dict_get ?xxa ?ba ?fa ?la (zH.dget _ _ t))) ?ra (zN.is (WW st.kb t false)) rfl
      case oa => k_extra "z"
      case Ta => rfl
      case xxa => k_extra "z"
      case ba => rfl
      case fa => decide
      case la => rfl
      case ra => k_extra "z"
     case ea => k_extra "z"
  case sd =>
   k_extra "next"
   have hct2:=Ve st.kb true (zB ys kind)
   refine' yK (d:=.int ((zB ys kind).length - zo st.kb true (zB ys kind) : Nat)) S ?sa ?sb rfl ?sd
   case sb => k_extra "kd"
   case sa =>
    refine' Ev.cast (Ev.bin (da:=.int (zB ys kind).length) (db:=.int (zo st.kb true (zB ys kind) : Nat)) S.e ?l1 ?l2 (yL.sub _ _)) ?q1
    case q1 => rw [Int.ofNat_sub hct2]
    case l1 =>
     refine' Ev.rd (Ev.cast (Ev.call S.e R0 ?f0 ?K0 (xJ.cons ?x0 xJ.nil (fun _ => rfl)) (zH.lenL ((zB ys kind).map .str) ?z0)) ?q0)
     case f0 | K0 => k_extra "z"
     case z0 => rw [List.length_map,sizeLine_eq]; k_extra "o"
     case q0 => rw [List.length_map]
     case x0 => k_extra "z"
    case l2 =>
     refine' Ev.rd (Ev.cast (Ev.call S.e R0 ?f0 ?K0 (xJ.cons ?x0 xJ.nil (fun _ => rfl)) (zH.lenL (((zB ys kind).filter fun t => xB st.kb.1 st.kb.2 t == some true).map .str) ?z0)) ?q0)
     case f0 | K0 => k_extra "z"
     case z0 => rw [List.length_map,sizeLine_eq]; exact Nat.le_trans (List.length_filter_le _ _) (by k_extra "o")
     case q0 => rw [List.length_map]; rfl
     case x0 =>
      refine' Ev.rd (Ev.comp1F (α:=Str) S.e R0 ?hcb ?srcb (zB ys kind) .str (zb.list _) (fun t => xB st.kb.1 st.kb.2 t == some true) .str ?hxb (by rw [sizeLine_eq]; k_extra "o") ?fsb ?turnb)
      case hcb => k_extra "kd"
      case srcb => k_extra "z"
      case hxb => k_extra "kd"
      case fsb => k_extra "fs"
      case turnb =>
       intro t ht env' h' M' kx hE
       refine ⟨xO.one ?tb,fun _ => ?eb⟩
       case tb =>
         refine' Tv.cmp R0 (Ev.rd (Ev.meth hE R0 ?ob ?Tb F.plainAttrs_dict F.slot_dict_get F.type_dict_get ?xxb ?bb ?fb ?lb (zH.dget _ _ t))) ?rb (zN.is (WW st.kb t true)) rfl
         case ob => k_extra "z"
         case Tb => rfl
         case xxb => k_extra "z"
         case bb => rfl
         case fb => decide
         case lb => rfl
         case rb => k_extra "z"
       case eb => k_extra "z"
   case sd =>
    k_extra "next"
    refine' yK (d:=.int st.asked.length) S ?sa ?sb rfl ?sd
    case sb => k_extra "kd"
    case sa =>
     refine' Ev.cast (Ev.call S.e R0 ?f0 ?K0 (xJ.cons ?x0 xJ.nil (fun _ => rfl)) (zH.lenL (st.asked.map yI) ?z0)) ?q0
     case f0 | K0 => k_extra "z"
     case z0 => rw [List.length_map,sizeLine_eq]; k_extra "o"
     case q0 => rw [List.length_map]
     case x0 => k_extra "z"
    case sd =>
     k_extra "next"
     have S2:=S.sub (ρ':=[(Str.ofString "done",.dat (.int st.asked.length)),(Str.ofString "high",.dat (.int ((zB ys kind).length - zo st.kb true (zB ys kind) : Nat))),(Str.ofString "low",.dat (.int (zo st.kb false (zB ys kind) : Nat))),(Str.ofString "chain",.dat (.list ((zB ys kind).map .str))),(Str.ofString "kind",.dat (.str kind)),(Str.ofString "known",.adr kn),(Str.ofString "chains",.adr ch),(Str.ofString "asked",.adr ak),(Str.ofString "_law_ask",.dat (.obs f fo [(c',oc)])),(Str.ofString "book",.dat bk),(Str.ofString "texts",.dat (.list (texts.map .str))),(Str.ofString "wants",.dat (.list (wants.map .str)))]) (by k_extra "sub")
     clear S
     have S:=S2
     clear S2
     obtain ⟨bf,bfd,bt,b1,b2⟩:=H.bis.left
     refine' wU ?g1 ?g2 ?g3
     case g1 => rfl
     case g2 => k_extra "kd"
     case g3 =>
      refine' xo (f:=.ref bf) (rs:=[.dat (.list ((zB ys kind).map .str)),.dat (.bool true),.dat (.int (zo st.kb false (zB ys kind) : Nat)),.dat (.int ((zB ys kind).length - zo st.kb true (zB ys kind) : Nat))]) S.e ?gf b1.keepy ?gx (by rfl) ?gk
      case gf => k_extra "z"
      case gx =>
       refine' .cons (r:=.dat (.list ((zB ys kind).map .str))) ?y1 (.cons (r:=.dat (.bool true)) ?y2 (.cons (r:=.dat (.int (zo st.kb false (zB ys kind) : Nat))) ?y3 (.cons (r:=.dat (.int ((zB ys kind).length - zo st.kb true (zB ys kind) : Nat))) ?y4 .nil (fun _ => rfl)) (fun _ => rfl)) (fun _ => rfl)) (fun _ => rfl)
       case y1 | y2 | y3 | y4 => k_extra "z"
      case gk =>
       intro vs s₂ k₂ rs
       have S₂:=S.step k₂
       refine zP.use4 rs fun v1 v2 v3 v4 r1 r2 r3 r4 => ?_
       obtain ⟨t3,rfl⟩:=Rp.int_inv r3
       refine Ev.name (d:=.obs f fo [(c',oc)]) (x:=Str.ofString "_law_ask") S₂.e ?n1 ?n2 s₂ _ _ (zR.refl _) fun kv s₃ k₃ rk => ?_
       case n1 => k_extra "mem"
       case n2 => k_extra "kd"
       have S₃:=S₂.step k₃
       obtain ⟨rfl,hfo,hfm,hfs⟩:=rk.obs_inv
       obtain ⟨hc1,hc2⟩:=hfs _ (.head _)
       obtain ⟨fd,cl,hfd,F,h1,h2⟩:=hF.fn
       have K:=kc S₃.e (scope:=zZ Xl) (by k_extra "kd") h1 h2
       have akM:=S₃.own ak hak
       have hidv : ∀ {a : Addr} {o : Obj},¬ M a → s₃.heap.get? a = some o → (hideAll s₃.heap [ak]).get? a = some o:=fun {a o} m e => hideAll_get _ e fun z => m (by rw [List.mem_singleton.mp z]; exact akM)
       have XB : zR B (hideAll s₃.heap [ak]):=xn (h:=s₃.heap) [ak] S₃.e.base fun a z => by rw [List.mem_singleton.mp z]; exact S₃.base ak hak
       have KO : ya prog w 2 (hideAll s₃.heap [ak]) M f ((zB ys kind).map .str) (fun c : List (Str × Bool) => c.length ≤ 1000) (fun c => [(ak,.list (c.map yI))]) (wF wants):=by
         refine JX F (by decide +kernel) G.lim XB (hidv hfm hfo) hfd ?_ (K.hide fun a z => ?_) (fun v s => wY F ?_ v s) (x:=Str.ofString "text") (by k_extra "kd") (fun c a y hm => ?_) (fun c => by simp) ?_
         · obtain ⟨us,t',q1,q2⟩:=hF.co
           exact ⟨c',oc,us,t',rfl,hidv hc2 hc1,q1,q2⟩
         · rw [List.mem_singleton.mp z]
           exact ⟨akM,fun v q => zn (S₃.e.mem ak (.list (st.asked.map yI)) xA) q⟩
         · intro fd v e1 e2 e3
           obtain ⟨f1,f2,f3,f4,f5,f6,f7,f8,f9,f10,f11,f12,f13,f14,f15⟩:=fd
           dsimp only at e1 e2 e3
           subst e1 e2 e3
           rfl
         · cases List.mem_singleton.mp hm
           exact ⟨akM,xl _ (.head _)⟩
         · intro c d hc hd A2 env2 Own2 M2 s4 s5 M1 R2 X2 hO2 S5
           obtain ⟨t,ht,rfl⟩:=List.mem_map.mp hd
           exact Js (H.ell.ext XB) (La:=ak) (wants:=wants) (t:=t) (c:=c) (R2.le (by k_extra "o")) (ρ:=[(Str.ofString "done",.dat (.int st.asked.length)),(Str.ofString "high",.dat (.int ((zB ys kind).length - zo st.kb true (zB ys kind) : Nat))),(Str.ofString "low",.dat (.int (zo st.kb false (zB ys kind) : Nat))),(Str.ofString "chain",.dat (.list ((zB ys kind).map .str))),(Str.ofString "kind",.dat (.str kind)),(Str.ofString "known",.adr kn),(Str.ofString "chains",.adr ch),(Str.ofString "asked",.adr ak),(Str.ofString "_law_ask",.dat (.obs f fo [(c',oc)])),(Str.ofString "book",.dat bk),(Str.ofString "texts",.dat (.list (texts.map .str))),(Str.ofString "wants",.dat (.list (wants.map .str)))])
            (by k_extra "mem") (by k_extra "mem") (fun want hw => hfit want hw t (hct t ht)) hc hwl (hO2 _ (.head _)) S5
       refine ⟨S₃.e.base, ?_⟩
       have inv:=kU wants st.kb (zB ys kind) st.asked
       refine qD (M₁:=M) (μk:=fun c : List (Str × Bool) => [(ak,.list (c.map yI))]) (P:=fun c : List (Str × Bool) => c.length ≤ 1000) (step:=wF wants) (J:=fun n c => c.length + n ≤ 1000) (args:=⟨[v1,v2,.int _ t3,v4],[(Str.ofString "key",.ref f)]⟩) (ra:=.dat (.list ((zB ys kind).map .str))) (μa:=[]) (hd:=.int ((zB ys kind).length - zo st.kb true (zB ys kind) : Nat)) G hlen b1 (fun d => match d with | .bool b => !b | _ => false) (zo st.kb false (zB ys kind)) ((zB ys kind).length - zo st.kb true (zB ys kind)) st.asked
         R S₃.e.base S₃.e.old (fun c a x hm => ?_) hfd hfo hfm KO (fun n c h => by k_extra "o") (by show _ + _ ≤ _; k_extra "o") (fun n c d h hd => ?_) (fun n m c h1 h2 => by k_extra "o") (fun _ _ => rfl) (.inl ⟨rfl,rfl⟩) (Rp.ext (ke k₃) r1) (fun a x hm => ?_) (by simp) (Rp.ext (ke k₃) r2) (Rp.ext (ke k₃) r4) (Zp (b2.ext S₃.e.base) _ _ _ _ _) (by rw [List.length_map]; k_extra "o") (.inr rfl) (by rw [List.length_map]; k_extra "o") (fun c d hc hd => ?_) (fun v s₄ ef hP' hc' rv => ?_)
       · cases List.mem_singleton.mp hm; exact ⟨akM,S₃.base ak hak⟩
       · obtain ⟨t,ht,rfl⟩:=List.mem_map.mp hd
         simp only [wF,List.length_append,List.length_singleton]; k_extra "o"
       · cases List.mem_singleton.mp hm; exact S₃.e.mem ak _ xA
       · obtain ⟨t,ht,rfl⟩:=List.mem_map.mp hd
         have:=zN.ltB (prog:=prog) (w:=w) (xD wants t) true
         rw [Bool.and_true] at this
         exact this
       · obtain ⟨h4,tk4,rfl,kk4⟩:=ef
         have S₄:=S₃.effect1 (h':=h4) (tk:=tk4) (pre:=[(kn,.dct st.kb.1 (st.kb.2.map .bool)),(ch,.list st.chains)]) (post:=[(P,.obs P (tabObj ps) os),(Lr,za ys)]) (d':=.list ((zp wants st.kb (zB ys kind) st.asked).1.map yI)) rfl hak (fun b o n e => kk4 b o (by simpa using n) e) (hc' ak _ (.head _))
         refine ⟨Own,M,_,_,.dat (.int ((zp wants st.kb (zB ys kind) st.asked).2 : Nat)),S₄,rv,fun s' S' => ?_⟩
         clear S S₂ S₃ S₄ KO XB hidv K
         have S:=S'
         clear S'
         refine Wk G H.range (kn:=kn) (ch:=ch) (ak:=ak) (P:=P) (Lr:=Lr) (ps:=ps) (os:=os) (ys:=ys) (kind:=kind) (chain:=zB ys kind) (wants:=wants) (texts:=texts) (bk:=bk) (fa:=.obs f fo [(c',oc)]) (low:=(zo st.kb false (zB ys kind) : Nat)) (high:=((zB ys kind).length - zo st.kb true (zB ys kind) : Nat)) (st:={ st with asked:=(zp wants st.kb (zB ys kind) st.asked).1 }) (done:=st.asked.length) (cut:=((zp wants st.kb (zB ys kind) st.asked).2 : Nat)) R0 hkn inv.2.1 (by have:=inv.1; dsimp only; k_extra "o") h16 (fun p hp => (inv.2.2 p hp).elim (hin p) (hct p.1)) (by have:=inv.1; dsimp only; k_extra "o") (S.sub ?sq) ?sk
         case sq => k_extra "sub"
         case sk =>
           k_extra "next"
           refine' vi (pre:=[(kn,_)]) (post:=[(ak,_),(P,_),(Lr,_)]) (d:=.list st.chains) (ds:=[.tup [.str kind,.list ((zB ys kind).map .str),.int (((zB ys kind).length : Int) - (zo st.kb true (zB ys kind) : Int) - (zo st.kb false (zB ys kind) : Int)),.int (((zp wants st.kb (zB ys kind) st.asked).1.length : Int) - (st.asked.length : Int)),.int ((zp wants st.kb (zB ys kind) st.asked).2 : Nat)]]) S R0 ?m1 ?m2 rfl hch rfl ?m3 ?m4 ?m5 ?m6 (by rfl) (by rfl) (xI.append _ _ ?m7) ?m8
           case m1 => k_extra "mem"
           case m2 => k_extra "kd"
           case m3 => k_extra "pa"
           case m4 => k_extra "slot"
           case m5 => k_extra "mty"
           case m6 =>
            refine .cons (Ev.tuple S.e (.cons ?t1 (.cons ?t2 (.cons (Ev.cast (d:=.int (((zB ys kind).length - zo st.kb true (zB ys kind) : Nat) - (zo st.kb false (zB ys kind) : Nat))) ?t3 ?t3e) (.cons (Ev.cast (d:=.int (((zp wants st.kb (zB ys kind) st.asked).1.map yI).length - st.asked.length)) ?t4 ?t4e) (.cons ?t5 .nil (fun _ => rfl)) (fun _ => rfl)) (fun _ => rfl)) (fun _ => rfl)) (fun _ => rfl)) (by rw [sizeLine_eq]; simp)) .nil (fun _ => rfl)
            case t1 | t2 | t3 => k_extra "z"
            case t3e => rw [Int.ofNat_sub hct2]
            case t4 => k_extra "z"
            case t4e => rw [List.length_map]
            case t5 => k_extra "z"
           case m7 => rw [sizeLine_eq]; k_extra "o"
           case m8 =>
            k_extra "next"
            refine zD (hQ _ (S.sub ?sz))
            case sz => k_extra "sub"
end
section
variable {prog : Program} {w : World} {A : Around} {B : Heap} {s₀ s : Shared} {Own₀ M₀ Own M : Addr → Prop} {env : Env} {mg mb : Str → Option Value} {mN : Str → Option Value} {C N : Addr}
theorem zc.rp_list {h : Heap} {M M₁ : Addr → Prop} {a : Addr} {ds : List D} (c : zc prog w h M a (.list ds)) (hm : ∀ x,M₁ x → M x) (ha : ¬ M₁ a) : Rp prog w h M₁ (.ref a) (.list ds):=by
 cases c with | list p q => exact .list p ha (q.less hm)
theorem zc.rp_dct {h : Heap} {M M₁ : Addr → Prop} {a : Addr} {ks : List Str} {ds : List D} (c : zc prog w h M a (.dct ks ds)) (hm : ∀ x,M₁ x → M x) (ha : ¬ M₁ a) : Rp prog w h M₁ (.ref a) (.dct ks ds):=by
 cases c with | dct p l g q => exact .dct p l g ha (q.less hm)
noncomputable abbrev WC (env : Env) : List (Pos × Str):=[(⟨222,4,227,19⟩,qualnameIn env (Str.ofString "_law_ask") (Str.ofString "_law_ask")),(⟨230,50,230,78⟩,env.qual ++ "<lambda>")]
theorem Yn (env : Env) : wb (WC env) = true:=by
 have h1 : (!((⟨222,4,227,19⟩ : Pos).line == (⟨230,50,230,78⟩ : Pos).line && (⟨222,4,227,19⟩ : Pos).col == (⟨230,50,230,78⟩ : Pos).col)) = true:=by kernel_rfl
 have h2 : (!((⟨230,50,230,78⟩ : Pos).line == (⟨222,4,227,19⟩ : Pos).line && (⟨230,50,230,78⟩ : Pos).col == (⟨222,4,227,19⟩ : Pos).col)) = true:=by kernel_rfl
 simp only [wb,WC,List.all_cons,List.all_nil,h1,h2,Bool.true_or,Bool.and_true,beq_self_eq_true,Bool.or_true]
theorem QJ (x : Str) (xs : List Str) : (Y0 x xs).length ≤ xs.length + 1:=by
 unfold Y0
 simp only [List.length_append,List.length_cons,List.length_take,List.length_drop]
 k_extra "o"
theorem QZ {x y : Str} {xs : List Str} (h : y ∈ Y0 x xs) : y = x ∨ y ∈ xs:=by
 unfold Y0 at h
 rcases List.mem_append.mp h with h | h
 · exact .inr (List.mem_of_mem_take h)
 · rcases List.mem_cons.mp h with h | h
   · exact .inl h
   · exact .inr (List.mem_of_mem_drop h)
theorem YI (names : List Str) (n : Str) : xL (names ++ [n]) = yb (xL names) n:=by
 unfold xL; rw [List.foldl_append]; rfl
theorem Zo (names : List Str) : (xL names).length ≤ names.length ∧ ∀ k ∈ xL names,∃ n ∈ names,k = zX n:=by
 suffices h : ∀ (l : List Str) (acc : List Str),(l.foldl yb acc).length ≤ acc.length + l.length ∧ ∀ k ∈ l.foldl yb acc,k ∈ acc ∨ ∃ n ∈ l,k = zX n by
  have:=h names []
  refine ⟨by simpa [xL] using this.1,fun k hk => ?_⟩
  rcases this.2 k hk with h | h
  · cases h
  · exact h
 intro l
 induction l with
 | nil => intro acc; exact ⟨by simp,fun k hk => .inl hk⟩
 | cons n l ih =>
  intro acc
  rw [List.foldl_cons]
  obtain ⟨h1,h2⟩:=ih (yb acc n)
  have hs : (yb acc n).length ≤ acc.length + 1:=by
    unfold yb
    by_cases hc : acc.contains (zX n) = true
    · rw [if_pos hc]; k_extra "o"
    · rw [if_neg hc]; exact QJ _ _
  refine ⟨by rw [List.length_cons]; k_extra "o",fun k hk => ?_⟩
  rcases h2 k hk with h | ⟨m,hm,e⟩
  · unfold yb at h
    by_cases hc : acc.contains (zX n) = true
    · rw [if_pos hc] at h; exact .inl h
    · rw [if_neg hc] at h
      rcases QZ h with h | h
      · exact .inr ⟨n,.head _,h⟩
      · exact .inl h
  · exact .inr ⟨m,.tail _ hm,e⟩
theorem q8 (texts : List Str) : ∀ (l : List (Str × Bool)) (kb : KB),(zu texts l kb).1.length ≤ kb.1.length + 16 * l.length
 | [],kb => by simp [zu]
 | p :: l,kb => by
  have h1:=ve texts (texts.idxOf p.1) p.2 16 kb
  have h2:=q8 texts l (yU texts (texts.idxOf p.1) p.2 16 kb)
  unfold zu at h2 ⊢
  rw [List.foldl_cons,List.length_cons]
  k_extra "o"
noncomputable abbrev Vq (d : D) : D:=match d with
 | .str y => .int (jp y)
 | _ => .none
theorem QS (x : Str) (xs : List Str) : qK (fun d => !(match Vq d with | .int b => decide (jp x < b) | _ => false)) (xs.map .str) (.str x) = (Y0 x xs).map .str:=by
 have e : (fun d : D => !(match Vq d with | .int b => decide (jp x < b) | _ => false)) = (fun d => !(match d with | .str y => decide (jp x < jp y) | _ => false)):=by
  funext d; cases d <;> rfl
 rw [e]
 unfold qK Y0
 simp only [List.map_append,List.map_cons,List.map_take,List.map_drop]
 try rfl
theorem QQ (H : VO B mg mb C N mN) {f : Addr} {fd : FuncData} (HF : yB B Wp f fd) {P : Addr} (hcd : ∃ c,fd.code = .ref c ∧ CodeHd B c P) (hb : ∀ s a b c,BindsTo s fd ⟨[a,b,c],[]⟩ [(Str.ofString "book",a),(Str.ofString "texts",b),(Str.ofString "wants",c)])
   {M₁ : Addr → Prop} {vb vt vw : Value} {bk : D} {Lr : Addr} {ys : List (Str × Str)} {texts wants : List Str} {Q E : Value → Shared → Prop} (R : Rm A 4) (X : zR B s.heap) (hold : ∀ a,M₁ a → ∃ o,s.heap.get? a = some o) (hP : M₁ P) (hPB : B.get? P = none) (hLP : Lr ≠ P)
   (hI : qY prog w bk C Lr) (rb : Rp prog w s.heap M₁ vb bk) (rt : Rp prog w s.heap M₁ vt (.list (texts.map .str))) (rw' : Rp prog w s.heap M₁ vw (.list (wants.map .str))) (hcP : zc prog w s.heap M₁ P (.obs P (tabObj #[]) [])) (hcL : zc prog w s.heap M₁ Lr (za ys))
   (h16 : texts.length = 16) (hys : ys.length ≤ 25) (hyt : ∀ y ∈ ys,y.2 ∈ texts) (hyl : ∀ y ∈ ys,xi y.1 = true) (hyk : ∀ y ∈ ys,wa (zX y.1) = true) (hyo : ∀ y ∈ ys,PyData.strOk (zX y.1) = true) (hfit : ∀ want ∈ wants,∀ t ∈ texts,w0 want t = true) (hwl : wants.length ≤ 1000)
   (hQ : ∀ v s' ps' os',Yb [P] s s' → zc prog w s'.heap M₁ P (.obs P (tabObj ps') os') → Rp prog w s'.heap M₁ v (.tup [.list (xG ys texts wants).chains,.dct (xG ys texts wants).kb.1 ((xG ys texts wants).kb.2.map .bool),.list ((xG ys texts wants).asked.map yI)]) → Q v s') :
   wpAny (model prog w) A (PySem.call (.ref f) [vb,vt,vw]) Q E s:=by
 refine wy (args:=⟨[vb,vt,vw],[]⟩) (M₁:=M₁) H.hdr.G HF (hb s vb vt vw) (by simp only [List.map_cons,List.map_nil]; decide) (by k_extra "kd") R X hold (fun a => a = P) (fun a z => by rw [z]; exact ⟨hP,hPB⟩) [(Str.ofString "book",.dat bk),(Str.ofString "texts",.dat (.list (texts.map .str))),(Str.ofString "wants",.dat (.list (wants.map .str)))] ?_ [(P,.obs P (tabObj #[]) []),(Lr,za ys)] (fun b x m => ?_) (by simpa using fun e => hLP e.symm) ?_
 · refine all_cons ?_ (all_cons ?_ (all_cons ?_ all_nil))
   · exact ⟨vb,.head _,rb⟩
   · exact ⟨vt,yo,rt⟩
   · exact ⟨vw,xA,rw'⟩
 · simp only [List.mem_cons,List.not_mem_nil,or_false] at m
   rcases m with e | e <;> cases e
   · exact hcP
   · exact hcL
 · intro env Own M s₁ hL R' hO hMM S
   obtain ⟨L,rfl⟩:=hL
   have R0 : Rm (A.deeper (zW fd L f)) 0:=R'.le (Nat.zero_le _)
   have G:=H.hdr.G
   have T : Tb B mg (zW fd L f) P (WC (zW fd L f)):=⟨⟨mb,G⟩,H.bm,hcd,Yn _⟩
   have hOP:=hO P rfl
   have hmore:=S.more
   show wpAny _ _ (execs (_ :: _ :: _ :: _ :: _ :: []) _) _ _ _
   refine' jJ (els:=[.new (.list []),.new (.list []),.new (.list []),.new (.dct [] [])]) S R0 [(Str.ofString "asked",_),(Str.ofString "kinds",_),(Str.ofString "chains",_),(Str.ofString "known",_)] rfl ?tx (by decide) (by k_extra "kd") rfl (by simp) (vJ _ (by rfl)) ?tk
   case tx =>
     refine' XI.cons (d:=.new (.list [])) ?e1 (XI.cons (d:=.new (.list [])) ?e2 (XI.cons (d:=.new (.list [])) ?e3 (XI.cons (d:=.new (.dct [] [])) ?e4 .nil (fun _ => rfl)) (fun _ => rfl)) (fun _ => rfl)) (fun _ => rfl)
     case e1 | e2 | e3 => intro h M μ hE; k_extra "z"
     case e4 => intro h M μ hE; exact jK.dict0 hE H.sys
   clear S
   intro ak hak kd hkd ch hch kn hkn s' S
   k_extra "flat"
   have n1 : ¬ M₁ ak:=fun z => hak (hmore _ z)
   have n2 : ¬ M₁ kd:=fun z => hkd (.inl (hmore _ z))
   have n3 : ¬ M₁ ch:=fun z => hch (.inl (.inl (hmore _ z)))
   have n4 : ¬ M₁ kn:=fun z => hkn (.inl (.inl (.inl (hmore _ z))))
   refine' JF (pre:=[(kn,.dct [] []),(ch,.list []),(kd,.list []),(ak,.list [])]) (post:=[(Lr,za ys)]) T S ?d1 (yN.nil _) ?d2 rfl rfl rfl rfl ?d3 ?d4 ?d5 ?d6
   case d1 => k_extra "z"
   case d2 => exact .head _
   case d3 | d4 | d6 => k_extra "kd"
   case d5 =>
     clear S
     intro fa fo fdA c' oc cl ps' os' s' hfd F hco hT h1 h2 S
     have hAsk : Jv (zW fd L f) fa fo c' oc:=⟨⟨fdA,cl,hfd,F,h1,h2⟩,hco⟩
     clear F hfd h1 h2 hco
     show wpAny _ _ (execs (_ :: _ :: _ :: []) _) _ _ _
     refine' xa (α:=Str × Str) (σ:=List Str × Array Value × List (Addr × Obj)) S R0 ?qv (dsrc:=.list (ys.map fun y => .str y.1)) ys (fun y => .str y.1) ?src (fun y => [(Str.ofString "name",.dat (.str y.1))]) ?asg ?fs
      (fun _ => [(Str.ofString "kinds",.adr kd),(Str.ofString "known",.adr kn),(Str.ofString "chains",.adr ch),(Str.ofString "asked",.adr ak),(Str.ofString "_law_ask",.dat (.obs fa fo [(c',oc)])),(Str.ofString "book",.dat bk),(Str.ofString "texts",.dat (.list (texts.map .str))),(Str.ofString "wants",.dat (.list (wants.map .str)))])
      (fun c => [(kn,.dct [] []),(ch,.list []),(kd,.list (c.1.map .str)),(ak,.list []),(P,.obs P (tabObj c.2.1) c.2.2),(Lr,za ys)])
      (fun i c => c.1 = xL ((ys.take i).map (·.1)) ∧ yN (WC (zW fd L f)) c.2.1 c.2.2) (fun _ _ _ => False) ([],ps',os') ?hp0 ?rho rfl ?off ?turn ?done ?exit
     case qv =>
      obtain ⟨gf,gfd,g1,g2,g3⟩:=H.hdr.keys
      refine' Ev.imeth (rs:=[]) S.e ?qo hI H.hdr.cls g1 g2 H.hdr.nga H.hdr.nge Xw ?hsh .nil ?hcall rfl
      case qo => k_extra "z"
      case hsh => exact if_neg (by decide)
      case hcall =>
       intro x vs s₂ E2 Q2 X1 old2 X2 rx rvs hq
       cases rvs
       exact Zg H.hdr g2 g3 (ys:=ys) (R'.le (by k_extra "o")) X2 old2 hI rx ((S.e.mem Lr _ K6).ext X1) (by k_extra "o") hq
     case src => exact .list _
     case asg => exact fun y _ => wD.name (by k_extra "kd")
     case fs => k_extra "fs"
     case hp0 => exact ⟨rfl,hT⟩
     case rho => k_extra "sub"
     case off => intro c y; k_extra "kd"
     case exit => exact fun f c s' h _ => h.elim
     case turn =>
      clear S
      intro i y c M' s₁ hy hP' hMM S
      obtain ⟨kinds,pst,ost⟩:=c
      obtain ⟨hK,hTb⟩:=hP'
      dsimp only at hK hTb S
      have hym : y ∈ ys:=List.mem_of_getElem? hy
      have hnext : xL ((ys.take (i + 1)).map (·.1)) = yb kinds y.1:=by
       rw [List.take_add_one,hy,hK,← YI]; simp
      have kin:=Zo ((ys.take i).map (·.1))
      rw [← hK] at kin
      have hkl : kinds.length ≤ 25:=by
       have:=kin.1
       rw [List.length_map,List.length_take] at this
       k_extra "o"
      have hko : (kinds.all PyData.strOk) = true:=List.all_eq_true.mpr fun k hk => by
       obtain ⟨n,hn,rfl⟩:=kin.2 k hk
       obtain ⟨z,hz,rfl⟩:=List.mem_map.mp hn
       exact hyo z (List.mem_of_mem_take hz)
      have low : ∀ {h : Heap} {ρ2 : List (Str × RV)} {μ2 : List (Addr × D)} (hE2 : En prog w B vM (zW fd L f) h M' ρ2 μ2) (hm : (Str.ofString "name",RV.dat (.str y.1)) ∈ ρ2) {p1 p2 p3 : Pos} (hl : (p2.endLine == p3.line) = true),Ev prog w (A.deeper (zW fd L f)) h (.Call (.Attribute (.Name (Str.ofString "name") p1) (Str.ofString "lower") p2) [] [] p3) (zW fd L f) (PS prog w M' (.str (zX y.1))):=by
       intro h ρ2 μ2 hE2 hm p1 p2 p3 hl
       exact Ev.lower hE2 R0 (Ev.rd (Ev.name hE2 hm (by decide))) (hyl y hym) rfl hl
      show wpAny _ _ (execs (_ :: []) _) _ _ _
      refine' vF (b:=!kinds.contains (zX y.1)) S ?it ?ik
      case it =>
       refine' Tv.cmp R0 (Ev.rd (low S.e (.head _) rfl)) ?qr (zN.notInS_list kinds (zX y.1) (hyo y hym) hko) rfl
       case qr => k_extra "z"
      case ik =>
       k_extra "next"
       unfold yb at hnext
       cases hb : kinds.contains (zX y.1)
       · rw [hb] at hnext
         simp only [Bool.false_eq_true,if_false] at hnext
         simp only [Bool.not_false,if_true]
         show wpAny _ _ (execs (_ :: []) _) _ _ _
         refine' qF (k:=0) (P:=P) (L:=kd) (ps:=pst) (os:=ost) (xs:=kinds.map .str) (ys:=.str (zX y.1) :: kinds.map .str) (xd:=.str (zX y.1)) (pre:=[(kn,.dct [] []),(ch,.list [])]) (mid:=[(ak,.list [])]) (post:=[(Lr,za ys)]) (step:=Vq) (px:=Str.ofString "kind")
           H.bis T S rfl ?i1 ?i2 hTb R' (fun d => match d with | .int b => decide (jp (zX y.1) < b) | _ => false) ?i3 ?i4 ?i5 (low S.e (.head _) rfl) (fun _ => rfl) ?i6 rfl ?i7 ?i8 ?i9 (fun fd c' cl F => ?i10) ?i11 ?i12 ?i13 ?i14 ?i15 rfl ?i16
         case i1 | i2 => k_extra "z"
         case i3 => k_extra "mem"
         case i4 | i5 => k_extra "kd"
         case i6 => exact yo
         case i7 | i8 | i9 => k_extra "kd"
         case i10 =>
           refine fun v s => wY F ?_ v s
           intro fd v e1 e2 e3
           obtain ⟨f1,f2,f3,f4,f5,f6,f7,f8,f9,f10,f11,f12,f13,f14,f15⟩:=fd
           dsimp only at e1 e2 e3
           subst e1 e2 e3
           rfl
         case i11 =>
           intro d hd A2 env2 h2 M2 B2 X2 R2 hE
           obtain ⟨z,rfl⟩ : ∃ z,d = .str z:=by
            rcases List.mem_cons.mp hd with e | hd
            · exact ⟨_,e⟩
            · obtain ⟨z,_,e⟩:=List.mem_map.mp hd; exact ⟨z,e.symm⟩
           show Ev _ _ _ _ _ _ (PS _ _ _ (.int (jp z)))
           unfold jp xS
           k_extra "z"
         case i12 => exact fun d hd => .tail _ hd
         case i13 => exact .head _
         case i14 => rw [List.length_map]; k_extra "o"
         case i15 =>
           intro d hd
           obtain ⟨z,_,rfl⟩:=List.mem_map.mp hd
           exact zN.lt _ _
         case i16 =>
           intro ps2 os2 s2 hT2 S2
           rw [QS] at S2
           refine zD (zD ⟨(Y0 (zX y.1) kinds,ps2,os2),_,_,S2.sub ?q1,hnext.symm,hT2⟩)
           case q1 => exact fun _ _ hm => .tail _ hm
       · rw [hb] at hnext
         simp only [if_true] at hnext
         simp only [Bool.not_true,Bool.false_eq_true,if_false]
         refine zD (zD ⟨(kinds,pst,ost),_,_,S.sub ?q1,hnext.symm,hTb⟩)
         case q1 => exact fun _ _ hm => .tail _ hm
     case done =>
      clear S hT
      intro c s' hP' S
      obtain ⟨kinds,pst,ost⟩:=c
      obtain ⟨hK,hTb⟩:=hP'
      dsimp only at hK hTb S
      rw [List.take_length] at hK
      have kin:=Zo (ys.map (·.1))
      rw [← hK] at kin
      have hkl : kinds.length ≤ 25:=by
       have:=kin.1
       rw [List.length_map] at this
       k_extra "o"
      have hkk : ∀ k ∈ kinds,wa k = true:=fun k hk => by
       obtain ⟨n,hn,rfl⟩:=kin.2 k hk
       obtain ⟨z,hz,rfl⟩:=List.mem_map.mp hn
       exact hyk z hz
      refine zD ?_
      have e3 : kn ≠ kd:=fun z => hkn (.inl (.inr z))
      have e4 : P ≠ kd:=fun z => n2 (z ▸ hP)
      have e1 : ak ≠ kd:=fun z => hkd (.inr z.symm)
      have e2 : ch ≠ kd:=fun z => hch (.inr z)
      have S2:=S.freezeAt (a:=kd) (x:=Str.ofString "kinds") (xs:=kinds.map .str) (pre:=[(kn,.dct [] []),(ch,.list [])]) (post:=[(ak,.list []),(P,.obs P (tabObj pst) ost),(Lr,za ys)])
       (.head _) (fun _ => Iff.rfl) (fun _ => Iff.rfl) (fun z => e4 z.symm) n2
      clear S
      have S:=S2
      clear S2
      show wpAny _ _ (execs (_ :: _ :: []) _) _ _ _
      refine' xa (α:=Str) (σ:=xC) S R0 ?qv kinds .str ?src (fun k => [(Str.ofString "kind",.dat (.str k))]) ?asg ?fs
       (fun _ => [(Str.ofString "known",.adr kn),(Str.ofString "chains",.adr ch),(Str.ofString "asked",.adr ak),(Str.ofString "_law_ask",.dat (.obs fa fo [(c',oc)])),(Str.ofString "book",.dat bk),(Str.ofString "texts",.dat (.list (texts.map .str))),(Str.ofString "wants",.dat (.list (wants.map .str)))])
       (fun st => [(kn,.dct st.kb.1 (st.kb.2.map .bool)),(ch,.list st.chains),(ak,.list (st.asked.map yI)),(P,.obs P (tabObj pst) ost),(Lr,za ys)])
       (fun i st => st = (kinds.take i).foldl (yf ys texts wants) ⟨[],([],[]),[]⟩ ∧ st.asked.length ≤ i * 25 ∧ st.kb.1.length ≤ 16 * st.asked.length ∧ st.chains.length = i ∧ ∀ p ∈ st.asked,p.1 ∈ texts) (fun _ _ _ => False) ⟨[],([],[]),[]⟩ ?hp0 ?rho rfl ?off ?turn ?done ?exit
      case qv => k_extra "z"
      case src => exact .list _
      case asg => exact fun y _ => wD.name (by k_extra "kd")
      case fs => k_extra "fs"
      case hp0 => exact ⟨rfl,Nat.le_refl _,Nat.le_refl _,rfl,fun _ h => by cases h⟩
      case rho => k_extra "sub"
      case off => intro c y; k_extra "kd"
      case exit => exact fun f c s' h _ => h.elim
      case turn =>
       clear S
       intro i k st M' s₁ hk hP' hMM S
       obtain ⟨g1,g2,g3,g4,g5⟩:=hP'
       have hi : i < kinds.length:=(List.getElem?_eq_some_iff.mp hk).1
       have hkm : k ∈ kinds:=List.mem_of_getElem? hk
       have inv:=kU wants st.kb (zB ys k) st.asked
       have hcl : (zB ys k).length ≤ ys.length:=by unfold zB; rw [List.length_map]; exact List.length_filter_le _ _
       refine QF H R' ⟨.inr rfl,e3⟩ ⟨.inl (.inr rfl),e2⟩ ⟨.inl (.inl (.inl (.inr rfl))),e1⟩ hAsk hI (by k_extra "o") h16 g5 (by k_extra "o") (by k_extra "o") (by k_extra "o") hyt hyl (hkk k hkm) hfit hwl S fun s' S' => ⟨yf ys texts wants st k,_,_,S', ?_, ?_, ?_, ?_, ?_⟩
       · rw [List.take_add_one,hk,List.foldl_append,← g1]; rfl
       · show (zp wants st.kb (zB ys k) st.asked).1.length ≤ _
         have:=inv.1
         k_extra "o"
       · show (zu texts ((zp wants st.kb (zB ys k) st.asked).1.drop st.asked.length) st.kb).1.length ≤ 16 * (zp wants st.kb (zB ys k) st.asked).1.length
         have h1:=q8 texts ((zp wants st.kb (zB ys k) st.asked).1.drop st.asked.length) st.kb
         rw [List.length_drop] at h1
         have:=inv.2.1
         k_extra "o"
       · show (st.chains ++ [_]).length = _
         rw [List.length_append,g4]; rfl
       · intro p hp
         rcases inv.2.2 p hp with h | h
         · exact g5 p h
         · obtain ⟨y,hy,e⟩:=List.mem_map.mp h
           rw [← e]; exact hyt y (List.mem_filter.mp hy).1
      case done =>
       clear S
       intro st s' hP' S
       obtain ⟨g1,_⟩:=hP'
       rw [List.take_length] at g1
       have g1 : st = xG ys texts wants:=by rw [g1,hK]; rfl
       subst g1
       refine zD ?_
       show wpAny _ _ (execs (_ :: []) _) _ _ _
       refine wpAny_execs_cons (wpAny_Return_some ?_)
       refine Tuple_ (vv (rs:=[.adr ch,.adr kn,.adr ak]) (.cons (Ev.var S.e ?v1 ?w1) (.cons (Ev.var S.e ?v2 ?w2) (.cons (Ev.var S.e ?v3 ?w3) .nil fun _ => rfl) fun _ => rfl) fun _ => rfl) _ _ _ (zR.refl _) fun vs s₂ k₂ rs => ?_)
       case v1 | v2 | v3 => k_extra "mem"
       case w1 | w2 | w3 => k_extra "kd"
       refine zP.use3 rs fun u1 u2 u3 r1 r2 r3 => ?_
       cases r1; cases r2; cases r3
       have S₂:=S.step k₂
       have h1 : zE prog w s₂.heap M₁ [.ref ch,.ref kn,.ref ak] [.list (xG ys texts wants).chains,.dct (xG ys texts wants).kb.1 ((xG ys texts wants).kb.2.map .bool),.list ((xG ys texts wants).asked.map yI)] :=
         .cons ((S₂.e.mem ch _ yo).rp_list S₂.more n3) (.cons ((S₂.e.mem kn _ Q4).rp_dct S₂.more n4) (.cons ((S₂.e.mem ak _ xA).rp_list S₂.more n1) .nil))
       have old2 : ∀ a,M₁ a → ∃ o,s₂.heap.get? a = some o:=fun a m => S₂.e.old a (S₂.more a m)
       refine wpAny_newObj_type (hQ _ _ pst ost ?_ ?_ (j6 h1 0 (wv old2))) (by show (3 : Nat) ≤ sizeLine; rw [sizeLine_eq]; decide)
       · exact (S₂.step (zQ s₂ _ _)).eff
       · exact ((S₂.step (zQ s₂ _ _)).e.mem P _ jM).to (fun _ e => e) fun b o m e => ⟨e,fun z => m (S₂.more b z)⟩
end
section
variable {prog : Program} {w : World} {A : Around} {B : Heap} {h : Heap} {env : Env} {M : Addr → Prop}
theorem Y7 (elt target iter : Expr) (scope : Scope) (pos : Pos) (acc : Value) (env' : Env) : wg (.ListComp elt [⟨target,iter,[],0⟩] scope pos) 0 target iter acc env' (do let _ ← call (.builtin "list.append") [acc,← eval elt env']):=by
 intro it; rfl
theorem zAK {α β γ δ ε ζ : Type} (a : Sem α) (b : Sem β) (c : α → Sem γ) (d : γ → Sem δ) (e : δ → Sem ε) (k : Sem ζ) : ((a >>= fun x => b >>= fun _ => c x >>= fun y => d y >>= fun z => e z >>= fun _ => pure ()) >>= fun (_ : Unit) => k) = (a >>= fun x => b >>= fun _ => c x >>= fun y => d y >>= fun z => e z >>= fun _ => k):=by simp only [bind_assoc,pure_bind]
theorem Vc (elt t1 i1 t2 i2 : Expr) (scope : Scope) (pos : Pos) (acc : Value) (env' : Env) : wg (.ListComp elt [⟨t1,i1,[],0⟩,⟨t2,i2,[],0⟩] scope pos) 0 t1 i1 acc env'
   (do
    let x ← eval i2 env'
    standAt i2.pos
    let x ← foldedSetIterable i2 env' x
    let _ ← runOwn (.compStart (.ListComp elt [⟨t1,i1,[],0⟩,⟨t2,i2,[],0⟩] scope pos) 1 (← holding [x] (pyIter x)) acc env') env'):=by
 intro it
 refine congrArg (standAt i1.pos >>= ·) (funext fun _ => congrArg (pyNext it >>= ·) (funext fun o => ?_))
 cases o
 · rfl
 · rename_i v
   refine congrArg (letOwnedTupleGo t1 it v >>= ·) (funext fun _ => congrArg (assign t1 env' v >>= ·) (funext fun _ => ?_))
   exact (zAK (eval i2 env') (standAt i2.pos) (foldedSetIterable i2 env') (fun x => holding [x] (pyIter x)) (fun y => runOwn (.compStart (.ListComp elt [⟨t1,i1,[],0⟩,⟨t2,i2,[],0⟩] scope pos) 1 y acc env') env') (again (.compLoop (.ListComp elt [⟨t1,i1,[],0⟩,⟨t2,i2,[],0⟩] scope pos) 0 it acc env'))).symm
theorem W4 (elt t1 i1 t2 i2 : Expr) (scope : Scope) (pos : Pos) (acc : Value) (env' : Env) : wg (.ListComp elt [⟨t1,i1,[],0⟩,⟨t2,i2,[],0⟩] scope pos) 1 t2 i2 acc env' (do let _ ← call (.builtin "list.append") [acc,← eval elt env']):=by
 intro it; rfl
theorem ZD {elt t1 i1 t2 i2 : Expr} {scope : Scope} {pos : Pos} {it acc : Value} {env' : Env} {R : Result → Shared → Prop} {s : Shared}
   (h0 : codeAny (model prog w) A (.compLoop (.ListComp elt [⟨t1,i1,[],0⟩,⟨t2,i2,[],0⟩] scope pos) 1 it acc env') R s)
   (h : wpAny (model prog w) A (pyIter it) (fun it' s' => codeAny (model prog w) A (.compLoop (.ListComp elt [⟨t1,i1,[],0⟩,⟨t2,i2,[],0⟩] scope pos) 1 it' acc env') R s') (notedBy (model prog w) A env' fun x s' => R (.error x) s') s) :
   codeAny (model prog w) A (.compStart (.ListComp elt [⟨t1,i1,[],0⟩,⟨t2,i2,[],0⟩] scope pos) 1 it acc env') R s:=by
 refine codeAny_of_tree ?_
 show wpAny _ _ ((compStart (.ListComp elt [⟨t1,i1,[],0⟩,⟨t2,i2,[],0⟩] scope pos) 1 it acc env').onRaise (fun x => do noteFrame x env'; standAt theWindowsPlace)) _ _ s
 refine wpAny_notedAt ?_
 unfold compStart
 show wpAny _ _ (ask >>= _) _ _ s
 refine wpAny_bind (wpAny_askSetting (wpAny_ite ?_))
 split
 · first
    | exact wpAny_bind (wpAny_pure (wpAny_pure (And.intro rfl h0)))
    | exact wpAny_pure (And.intro rfl h0)
 · first
    | exact wpAny_bind (wpAny_rule (wpAny_bind (wpAny_standAt (wpAny_bind (wpAny_mono h (fun it' s' h' => wpAny_pure (And.intro rfl h')) fun _ _ x => x)))))
    | (refine wpAny_bind (wpAny_rule ?_); show wpAny _ _ (standAt i2.pos >>= _) _ _ s; exact wpAny_bind (wpAny_standAt (wpAny_bind (wpAny_mono h (fun it' s' h' => wpAny_pure (And.intro rfl h')) fun _ _ x => x))))
noncomputable def jc (prog : Program) (w : World) (A : Around) (e : Expr) (scope : Scope) (iter : Expr) (env : Env) (M : Addr → Prop) {σ : Type} (Z : Shared → σ → Prop) (d : D) (s : Shared) : Prop :=
 ∀ (use : Option (Value → Sem Unit)) (E Q : Value → Shared → Prop) (pos' : Pos),(∀ s₁ c acc C s',Z s₁ c → Keeps s₁ s' → s₁.heap.get? C = none → (∃ m,s'.heap.Ns C m) → Rp prog w s'.heap (fun a => M a ∨ a = C) acc d → compPost (model prog w) A E use Q acc C (.ok .next) s') →
  wpAny (model prog w) A (comprehension e scope env pos' (newList []) false (eval iter env) use) Q E s
theorem Zt {s s' : Shared} : Yb [] s s' → Keeps s s':=fun ⟨h',tk,e,k⟩ => ⟨h',tk,e,fun a o q => k a o (by simp) q⟩
theorem JA {α σ : Type} {names : zJ} {scope : Scope} {ρ : List (Str × RV)} {μ : σ → List (Addr × D)} {elt target iter : Expr} {pos : Pos} {dsrc : D} {Z : Shared → σ → Prop} {s : Shared}
   (N₀ : vH names env) (R : Rm A 0) (hc : yH names scope = true) (ys : List α) (g : α → D) (hs : zb dsrc (ys.map g)) (bs : α → List (Str × RV)) (f : α → D)
   (hasg : ∀ y ∈ ys,wD prog w scope.names target (g y) (bs y)) (hapart : ∀ y ∈ ys,∀ x r,(x,r) ∈ bs y → scope.names.lookup x ≠ some .free) (hfs : ∀ x,foldedSetIterable iter env x = pure x) (hsz : ys.length ≤ sizeLine)
   (hμ : ∀ c c' a d,(a,d) ∈ μ c → ∃ d',(a,d') ∈ μ c')
   (hsrc : ∀ E,wpAny (model prog w) A (eval iter env) (fun xv s₁ => ∃ c₀,Z s₁ c₀ ∧ En prog w B names env s₁.heap M ρ (μ c₀) ∧ Rp prog w s₁.heap M xv dsrc) E s)
   (turn : ∀ y ∈ ys,∀ c env' h' M',En prog w B scope.names env' h' M' (bs y ++ xV scope.names ρ) (μ c) → Ev prog w A h' elt env' (PS prog w M' (f y))) :
   jc prog w A (.ListComp elt [⟨target,iter,[],0⟩] scope pos) scope iter env M Z (.list (ys.map f)) s:=by
 intro use E Q pos' hQ
 refine wq (B:=B) (M:=M) (ρ:=ρ) (dsrc:=dsrc) (Z:=Z) (W:=[]) (μ:=μ) (Pc:=fun i _ outs => outs = (ys.take i).map f) N₀ R hc ys g hs bs _ (Y7 elt target iter scope pos) hasg hapart hfs (fun a m => by cases m) (fun c a m => by cases m) hμ (wpAny_mono (hsrc E) (fun xv s₁ q => ?_) fun _ _ x => x) ?_ ?_
 · obtain ⟨c₀,q1,q2,q3⟩:=q
   exact ⟨c₀,q1,rfl,q2,.inl q3,fun a m => by cases m⟩
 · intro s₁ c₀ hz i y c outs s₂ env' M' T D E' _ _ hy hP hMM hMn k hT hTM hTB hDF hDW hWF hpl hcl hcap hE F hacc
   have hmy : y ∈ ys:=List.mem_of_getElem? hy
   subst hP
   refine wpAny_mono (qU (W:=[]) (μ:=μ) (Z:=fun c' => c' = c) (ρx:=[]) (d:=f y) F hacc hT hTM hDF hDW hWF (fun c a d m => (hpl c a d m).1) ?_ (fun _ _ m => by cases m) (fun x c e => ?_) fun Q' hq => ?_) (fun _ s' q => ?_) fun _ _ x => x
   · rw [List.length_map]
     exact Nat.le_trans (by rw [List.length_take]; omega) hsz
   · rcases hcl x c e with h | ⟨v,_,t⟩
     · exact .inl (.inr ⟨x,h,e⟩)
     · exact .inr t
   · refine turn y hmy c env' _ M' hE s₂ E' Q' (zR.refl _) fun v s' ks r => ?_
     obtain ⟨h',tk,rfl,kk⟩:=ks
     exact hq v _ c rfl ⟨h',tk,rfl,fun a o _ e => kk a o e⟩ (fun a d m => (hE.mem a d m).ext kk) r
   · obtain ⟨c',rfl,q⟩:=q
     refine ⟨c',_,rfl, ?_⟩
     rw [List.take_add_one,hy]
     simpa using q
 · intro s₁ c₀ hz c outs acc C s' hP ef hC hns r hmem
   rw [List.take_length] at hP
   subst hP
   exact hQ s₁ c₀ acc C s' hz (Zt ef) hC hns r
theorem WE {α β σ : Type} {names : zJ} {scope : Scope} {ρ : List (Str × RV)} {μ : σ → List (Addr × D)} {elt target iter t2 i2 : Expr} {pos : Pos} {dsrc : D} {Z : Shared → σ → Prop} {s : Shared}
   (N₀ : vH names env) (R : Rm A 0) (hc : yH names scope = true) (ys : List α) (g : α → D) (hs : zb dsrc (ys.map g)) (bs : α → List (Str × RV)) (d2 : α → D) (zs : α → List β) (g2 : β → D) (bs2 : β → List (Str × RV)) (f : α → β → D)
   (hasg : ∀ y ∈ ys,wD prog w scope.names target (g y) (bs y)) (hapart : ∀ y ∈ ys,∀ x r,(x,r) ∈ bs y → scope.names.lookup x ≠ some .free) (hfs : ∀ x,foldedSetIterable iter env x = pure x)
   (hs2 : ∀ y ∈ ys,zb (d2 y) ((zs y).map g2)) (hasg2 : ∀ y ∈ ys,∀ z ∈ zs y,wD prog w scope.names t2 (g2 z) (bs2 z)) (hapart2 : ∀ y ∈ ys,∀ z ∈ zs y,∀ x r,(x,r) ∈ bs2 z → scope.names.lookup x ≠ some .free) (hoff : ∀ y ∈ ys,∀ z ∈ zs y,∀ x r,(x,r) ∈ bs y → ∀ r',(x,r') ∉ bs2 z)
   (hfs2 : ∀ env x,foldedSetIterable i2 env x = pure x) (hsz : (ys.flatMap fun y => (zs y).map (f y)).length ≤ sizeLine)
   (hμ : ∀ c c' a d,(a,d) ∈ μ c → ∃ d',(a,d') ∈ μ c')
   (hsrc : ∀ E,wpAny (model prog w) A (eval iter env) (fun xv s₁ => ∃ c₀,Z s₁ c₀ ∧ En prog w B names env s₁.heap M ρ (μ c₀) ∧ Rp prog w s₁.heap M xv dsrc) E s)
   (ev2 : ∀ y ∈ ys,∀ c env' h' M',En prog w B scope.names env' h' M' (bs y ++ xV scope.names ρ) (μ c) → Ev prog w A h' i2 env' (PS prog w M' (d2 y)))
   (turn : ∀ y ∈ ys,∀ z ∈ zs y,∀ c env' h' M',En prog w B scope.names env' h' M' (bs2 z ++ (bs y ++ xV scope.names ρ)) (μ c) → Ev prog w A h' elt env' (PS prog w M' (f y z))) :
   jc prog w A (.ListComp elt [⟨target,iter,[],0⟩,⟨t2,i2,[],0⟩] scope pos) scope iter env M Z (.list (ys.flatMap fun y => (zs y).map (f y))) s:=by
 intro use E Q pos' hQ
 have hlen : ∀ i,((ys.take i).flatMap fun y => (zs y).map (f y)).length ≤ (ys.flatMap fun y => (zs y).map (f y)).length:=fun i => by
   conv => rhs; rw [← List.take_append_drop i ys,List.flatMap_append,List.length_append]
   omega
 refine wq (B:=B) (M:=M) (ρ:=ρ) (dsrc:=dsrc) (Z:=Z) (W:=[]) (μ:=μ) (Pc:=fun i _ outs => outs = (ys.take i).flatMap fun y => (zs y).map (f y)) N₀ R hc ys g hs bs _ (Vc elt target iter t2 i2 scope pos) hasg hapart hfs (fun a m => by cases m) (fun c a m => by cases m) hμ (wpAny_mono (hsrc E) (fun xv s₁ q => ?_) fun _ _ x => x) ?_ ?_
 · obtain ⟨c₀,q1,q2,q3⟩:=q
   exact ⟨c₀,q1,rfl,q2,.inl q3,fun a m => by cases m⟩
 · intro s₁ c₀ hz i y c outs s₂ env' M' T D E' _ _ hy hP hMM hMn k hT hTM hTB hDF hDW hWF hpl hcl hcap hE F hacc
   have hmy : y ∈ ys:=List.mem_of_getElem? hy
   subst hP
   have hnext : ((ys.take (i + 1)).flatMap fun y => (zs y).map (f y)) = ((ys.take i).flatMap fun y => (zs y).map (f y)) ++ (zs y).map (f y):=by
    rw [List.take_add_one,hy]; simp
   refine wpAny_bind (ev2 y hmy c env' _ M' hE s₂ E' _ (zR.refl _) fun xv s₃ k₃ rx => wpAny_bind (wpAny_standAt (wpAny_bind ?_)))
   rw [hfs2]
   refine wpAny_pure (wpAny_bind (wpAny_holding ?_))
   refine q9 R.hh (hs2 y hmy) (.inl rx) fun I fp wr P St s₄ src stay k₄ => ?_
   refine wpAny_bind (wpAny_runOwn ?_ (by intro h; cases h))
   have hE₃:=hE.ext (ke k₃)
   have k23:=zA k₃ k₄
   obtain ⟨vs,hl,hr⟩:=hacc
   have loop : codeAny (model prog w) A (.compLoop (.ListComp elt [⟨target,iter,[],0⟩,⟨t2,i2,[],0⟩] scope pos) 1 (.ref I) (.ref D) env') (fun r s' => match r with
      | .ok _ => wpAny (model prog w) A (pure ()) (fun _ s' => ∃ c' outs',outs' = ((ys.take (i + 1)).flatMap fun y => (zs y).map (f y)) ∧ vU prog w scope.names env' M' T D (μ c') [] outs' s₂ s') E' s'
      | .error e => cameBackBy (model prog w) A env' E' e s') s₄:=by
    have hlive : ∀ a,M' a → ∃ o,s₃.heap.get? a = some o:=hE₃.old
    have kT : ∀ a o,¬ T a → s₁.heap.get? a = some o → s₃.heap.get? a = some o:=fun a o t e => ke k₃ a o (k a o t e)
    refine ko (h:=s₃.heap) (M:=M') (M':=fun a => M' a ∨ T a ∨ a ∈ wr) (T:=T) (W:=[]) (ρ:=ρ) (μ:=fun _ : Unit => μ c) (bs:=bs2) (F:=fun _ _ _ => []) (c₀:=()) (ρx:=bs y) (outs₀:=(ys.take i).flatMap fun y => (zs y).map (f y)) (Pc:=fun j _ outs => outs = ((ys.take i).flatMap fun y => (zs y).map (f y)) ++ ((zs y).take j).map (f y))
      (W4 elt target iter t2 i2 scope pos _ env') hE.n R.hh src (fun a => Iff.rfl) hT hE₃.base hlive (fun a o t _ => hTM a t) hTB (fun a t m => ?_) hDF hDW hWF (fun c a m => by cases m) (fun _ a d m => ⟨(hpl c a d m).2,xX (hE₃.mem a d m)⟩) (fun x cc e => ?_) (fun x r hm => ?_) (fun z hz x r m r' => hoff y hmy z hz x r m r') (hasg2 y hmy) (hapart2 y hmy) ?_ (by simp) ?_ ?_
    · rcases stay a m with q | q
      · obtain ⟨o,e⟩:=hlive a (hTM a t); rw [src.fresh a q] at e; cases e
      · exact Rp.ref_not (q ▸ rx) (hTM a t)
    · rcases hcl x cc e with h | ⟨v,⟨o,q1,q2⟩,t⟩
      · exact .inl h
      · exact .inr ⟨v,⟨o,kT _ _ t q1,q2⟩,t⟩
    · obtain ⟨v,hr,cc,e,⟨o,q1,q2⟩,t,hx⟩:=hcap x r hm
      exact ⟨v,hr.to fun a o m e => ⟨kT a o (fun t => m (hMn a o (hTM a t) e)) e,fun z => m (hMn a o z e)⟩,cc,e,⟨o,kT _ _ t q1,q2⟩,t,hx⟩
    · intro j z u outs s₅ E₅ hz hP₅ k₅ hE₅ F₅ hacc₅
      have hmz : z ∈ zs y:=List.mem_of_getElem? hz
      subst hP₅
      refine wpAny_mono (qU (W:=[]) (μ:=fun _ : Unit => μ c) (Z:=fun _ => True) (ρx:=bs y) (d:=f y z) F₅ hacc₅ hT (fun a t => .inr (.inl t)) hDF hDW hWF (fun _ a d m => (hpl c a d m).1) ?_ (fun x r m => hE₅.vars x r (List.mem_append_right _ (List.mem_append_left _ m))) (fun x cc e => ?_) fun Q' hq => ?_) (fun _ s' q => ?_) fun _ _ x => x
      · refine Nat.le_trans ?_ (Nat.le_trans (hlen (i + 1)) hsz)
        rw [hnext,List.length_append,List.length_append,List.length_map,List.length_map,List.length_take]; omega
      · rcases hcl x cc e with h | ⟨v,_,t⟩
        · exact .inl (.inr ⟨x,h,e⟩)
        · exact .inr t
      · refine turn y hmy z hmz c env' _ _ hE₅ s₅ E₅ Q' (zR.refl _) fun v s' ks r => ?_
        obtain ⟨h',tk,rfl,kk⟩:=ks
        exact hq v _ () trivial ⟨h',tk,rfl,fun a o _ e => kk a o e⟩ (fun a d m => (hE₅.mem a d m).ext kk) r
      · obtain ⟨_,_,q⟩:=q
        refine ⟨(),_,rfl, ?_⟩
        rw [List.take_add_one,hz]
        simpa using q
    · have lift : ∀ a o,¬ M' a → s₂.heap.get? a = some o → s₄.heap.get? a = some o ∧ ¬ (M' a ∨ T a ∨ a ∈ wr):=fun a o m e => ⟨ke k23 a o e,fun z => by
        rcases z with z | z | z
        · exact m z
        · exact m (hTM a z)
        · have:=ke k₃ a o e; rw [src.fresh a z] at this; cases this⟩
      refine ⟨fun a o _ e => ke k₄ a o e,src.st,F.to fun a o _ e => ke k23 a o e,⟨vs,hl.at fun o e => ke k23 _ o e,hr.to lift⟩,fun a d m => (hE.mem a d m).to (fun o e => ke k23 a o e) lift,fun x r m => ?_⟩
      obtain ⟨u,hu,hr⟩:=hE.vars x r (List.mem_append_left _ m)
      exact ⟨u,hu.ext (ke k23),hr.to lift⟩
    · rintro u outs s' hP' ⟨⟨h',tk',e'⟩,g1,g2,⟨vs',hl',hr'⟩,g4,g5⟩
      rw [List.take_length] at hP'
      subst hP'
      dsimp only at g1
      obtain ⟨h₄,tk₄,rfl,_⟩:=k23
      subst e'
      refine wpAny_pure ⟨c,_,rfl,⟨h',tk',rfl⟩,fun a o t e => g1 a o t (ke k₃ a o e),g2,⟨vs',hl', ?_⟩,fun a d m => (g4 a d m).to (fun _ e => e) fun b o m e => ⟨e,fun z => m (.inl z)⟩,fun _ _ m => by cases m⟩
      rw [hnext]
      exact hr'.less fun a m => .inl m
   exact ZD loop (src.W.self 0 _ _ _ src.st loop)
 · intro s₁ c₀ hz c outs acc C s' hP ef hC hns r hmem
   rw [List.take_length] at hP
   subst hP
   exact hQ s₁ c₀ acc C s' hz (Zt ef) hC hns r
end
section
variable {prog : Program} {w : World} {A : Around} {B : Heap} {h : Heap} {env : Env} {M : Addr → Prop} {s₀ s : Shared} {Own₀ M₀ Own : Addr → Prop} {names : zJ} {ρ : List (Str × RV)} {E : Value → Shared → Prop} {rest : List Stmt}
theorem Ev.ofCompTo {elt : Expr} {gens : List Comprehension} {scope : Scope} {iter : Expr} {pos : Pos} {d : D} (hg : ∃ t gs,gens = ⟨t,iter,[],0⟩ :: gs) (old : ∀ a,M a → ∃ o,h.get? a = some o)
  (H : ∀ s,zR h s.heap → jc prog w A (.ListComp elt gens scope pos) scope iter env M (fun s₁ (_ : Unit) => Keeps s s₁) d s) : Ev prog w A h (.ListComp elt gens scope pos) env (PS prog w M d):=by
 intro s E Q k hQ
 obtain ⟨t,gs,rfl⟩:=hg
 rw [eval_ListComp]
 refine H s k none E _ _ ?_
 rintro s₁ _ acc C s' hz ks hC ⟨m,n⟩ r
 have k2:=zA hz ks
 obtain ⟨h',tk,rfl,kk⟩:=k2
 have hC0 : s.heap.get? C = none:=yj hz hC
 refine ⟨m,n,fun h'' sb => hQ acc _ ⟨h'',tk,rfl,fun a o e => sb.extBut a o (fun q => by rw [q,hC0] at e; cases e) (kk a o e)⟩ (r.to fun a o m' e => ⟨sb.extBut a o (fun q => m' (.inr q)) e,fun x => m' (.inl x)⟩)⟩
theorem WS {σ : Type} {elt target iter : Expr} {gens : List Comprehension} {scope : Scope} {cpos : Pos} {d : D} {x : Str} {xp pos : Pos} {Z : Shared → σ → Prop} {Q : Flow → Shared → Prop} (N : vH names env) (hx : zY names x = true)
  (H : jc prog w A (.ListComp elt (⟨target,iter,[],0⟩ :: gens) scope cpos) scope iter env M Z d s)
  (hZ : ∀ s₁ c,Z s₁ c → ∃ μ,St prog w B s₀ Own₀ M₀ names env Own M ρ μ s₁ ∧ ∀ s',St prog w B s₀ Own₀ M₀ names env Own M ((x,.dat d) :: XJ x ρ) μ s' → wpAny (model prog w) A (execs rest env) Q E s') :
  wpAny (model prog w) A (execs (.Assign [.Name x xp] (.ListComp elt (⟨target,iter,[],0⟩ :: gens) scope cpos) pos :: rest) env) Q E s:=by
 obtain ⟨b,hb⟩:=kQ (p:=xp) (line:=pos.line) (elt:=elt) (gens:=⟨target,iter,[],0⟩ :: gens) (scope:=scope) (pos:=cpos) N hx
 cases b with
 | false =>
  refine wpAny_execs_cons (wpAny_Assign_Name ?_ hb)
  rw [eval_ListComp]
  refine H none E _ _ ?_
  rintro s₁ c acc C s' hz ks hC ⟨m,n⟩ r
  obtain ⟨μ,S,k⟩:=hZ s₁ c hz
  obtain ⟨h',tk,rfl,kk⟩:=ks
  refine ⟨m,n,fun h'' sb => ?_⟩
  have S':=S.step (s':={ s₁ with heap:=h'',toks:=tk }) ⟨h'',tk,rfl,fun a o e => sb.extBut a o (fun q => by rw [q,hC] at e; cases e) (kk a o e)⟩
  exact S'.store (r:=.dat d) (r.to fun a o m' e => ⟨sb.extBut a o (fun q => m' (.inr q)) e,fun x => m' (.inl x)⟩) hx fun s' S' => k s' S'
 | true =>
  refine wpAny_execs_cons ?_
  rw [exec_Assign_Name_used _ _ _ _ hb]
  refine wpAny_bind (wpAny_standAt (wpAny_bind ?_))
  show wpAny _ A (do let _ ← comprehension (.ListComp elt (⟨target,iter,[],0⟩ :: gens) scope cpos) scope env _ (newList []) false (eval iter env) (some (assign (.Name x xp) env))) _ _ s
  refine wpAny_bind (wpAny_mono (Q:=fun _ s' => wpAny (model prog w) A (execs rest env) Q E s') (H (some (assign (.Name x xp) env)) E _ _ ?_) (fun _ _ q => wpAny_pure (wpAny_pure q)) fun _ _ e => e)
  rintro s₁ c acc C s' hz ks hC ⟨m,n⟩ r
  obtain ⟨μ,S,k⟩:=hZ s₁ c hz
  show wpAny _ A (assign (.Name x xp) env acc) _ E s'
  have S':=S.step ks
  refine wpAny_assign_Name (yD S'.e.n S'.f (yR hx) fun h₂ tk₂ F₂ hv hy hk => ?_)
  have hCn : ¬ zO names env C:=fun z => by obtain ⟨o,e⟩:=S.f.has z; rw [hC] at e; cases e
  refine ⟨m,n.at' fun o e => (hk C hCn).trans e,fun h₃ sb => k _ ?_⟩
  have hkk : ∀ a o,¬ zO names env a → s₁.heap.get? a = some o → h₃.get? a = some o:=fun a o z e => sb.extBut a o (fun q => by rw [q,hC] at e; cases e) ((hk a z).trans (ke ks a o e))
  obtain ⟨h',tk',rfl,kk⟩:=ks
  have F₃ : yu names env h₃:=F₂.to fun a o z e => sb.extBut a o (fun q => hCn (q ▸ z)) e
  have W : St prog w B s₀ Own₀ M₀ names env Own M [] μ { s₁ with heap:=h₃,toks:=tk₂ }:=(S.sub (ρ':=[]) (by intro _ _ q; cases q)).written F₃ hkk (by intro _ _ q; cases q)
  have hmv : ∀ a o,¬ (M a ∨ a = C) → h'.get? a = some o → h₃.get? a = some o ∧ ¬ M a:=fun a o q e => ⟨sb.extBut a o (fun z => q (.inr z)) ((hk a fun z => q (.inl (S.own a (S.fr a z)))).trans e),fun z => q (.inl z)⟩
  refine { W with e:={ W.e with vars:=fun y u hm => ?_ } }
  rcases List.mem_cons.mp hm with e2 | hm
  · cases e2
    refine ⟨acc, ?_,r.to hmv⟩
    rcases hv with ⟨a,m2,n2,e2⟩ | ⟨a,c,e2,q⟩
    · exact .inl ⟨a,m2,n2.sameBut sb fun z => hCn (.inl z.symm),e2⟩
    · refine .inr ⟨a,c,e2,q.sameBut sb fun z => ?_⟩
      subst z
      obtain ⟨v,o,q2,_⟩:=S.e.celled _ _ e2
      rw [hC] at q2; cases q2
  · have hm2:=List.mem_filter.mp hm
    obtain ⟨u',hu,hr'⟩:=S.e.vars y u hm2.1
    have hu':=hy y u' (by simpa using hm2.2) (hu.ext kk)
    refine ⟨u', ?_,hr'.to fun a o q e => ⟨hkk a o (fun z => q (S.own a (S.fr a z))) e,q⟩⟩
    rcases hu' with ⟨a,m2,n2,e2⟩ | ⟨a,c,e2,q⟩
    · exact .inl ⟨a,m2,n2.sameBut sb fun z => hCn (.inl z.symm),e2⟩
    · refine .inr ⟨a,c,e2,q.sameBut sb fun z => ?_⟩
      subst z
      obtain ⟨v,o,q2,_⟩:=S.e.celled _ _ e2
      rw [hC] at q2; cases q2
theorem En.turned {P : Addr} {d d' : D} {pre post : List (Addr × D)} (S : En prog w B names env h M ρ (pre ++ (P,d) :: post)) (hP : M P) (hPB : B.get? P = none) (hnn : ((pre ++ (P,d) :: post).map (·.1)).Nodup) {h' : Heap}
   (hk : ∀ a o,a ≠ P → h.get? a = some o → h'.get? a = some o) (hc : zc prog w h' M P d') (hl : ∀ m,¬ h.Ns P m) : En prog w B names env h' M ρ (pre ++ (P,d') :: post):=by
 have hcell : ∀ v,¬ h.IsCell P v:=fun v q => zn (S.mem P d (by simp)) q
 refine ⟨fun a o e => hk a o (fun z => by rw [z,hPB] at e; cases e) (S.base a o e),S.n,fun a m => ?_,fun x c e => ?_,fun x r m => ?_,fun a x m => ?_⟩
 · by_cases z : a = P
   · subst z; exact xX hc
   · obtain ⟨o,e⟩:=S.old a m; exact ⟨o,hk a o z e⟩
 · obtain ⟨v,o,q1,q2⟩:=S.celled x c e
   exact ⟨v,o,hk c o (fun z => hcell v (by rw [← z]; exact ⟨o,q1,q2⟩)) q1,q2⟩
 · obtain ⟨v,hv,hr⟩:=S.vars x r m
   refine ⟨v, ?_,hr.to fun a o m e => ⟨hk a o (fun z => m (z ▸ hP)) e,m⟩⟩
   rcases hv with ⟨a,m2,n2,e2⟩ | ⟨a,c,e2,o,q1,q2⟩
   · exact .inl ⟨a,m2,n2.at' fun o e => hk _ o (fun z => hl m2 (z ▸ n2)) e,e2⟩
   · exact .inr ⟨a,c,e2,o,hk c o (fun z => hcell _ (by rw [← z]; exact ⟨o,q1,q2⟩)) q1,q2⟩
 · have keep : a ≠ P → (a,x) ∈ pre ++ (P,d) :: post → zc prog w h' M a x:=fun z m => (S.mem a x m).to (fun o e => hk a o z e) fun b o m e => ⟨hk b o (fun z => m (z ▸ hP)) e,m⟩
   have hne : ∀ p : Addr × D,p ∈ pre ∨ p ∈ post → p.1 ≠ P:=by
     intro p hp q
     rw [List.map_append,List.map_cons,List.nodup_append] at hnn
     rcases hp with hp | hp
     · exact hnn.2.2 _ (List.mem_map_of_mem hp) _ (.head _) q
     · have:=(List.nodup_cons.mp hnn.2.1).1
       exact this (List.mem_map.mpr ⟨p,hp,q⟩)
   rcases List.mem_append.mp m with m | m
   · exact keep (hne (a,x) (.inl m)) (List.mem_append_left _ m)
   · rcases List.mem_cons.mp m with e | m
     · cases e; exact hc
     · exact keep (hne (a,x) (.inr m)) (List.mem_append_right _ (.tail _ m))
theorem XU {P : Addr} {ps : Array Value} {os : List (Addr × Obj)} (c : zc prog w h M P (.obs P (tabObj ps) os)) (m : Str → Option Value) : ¬ h.Ns P m:=by
 rintro ⟨o,es,ep,e,d,_⟩
 cases c with | tab p _ =>
 rw [p] at e; cases e; cases d
theorem Q3 {mg : Str → Option Value} {P : Addr} {qs : List (Pos × Str)} {pre post : List (Addr × D)} {ps : Array Value} {os : List (Addr × Obj)} (T : Tb B mg env P qs) (S : En prog w B names env s.heap M ρ (pre ++ (P,.obs P (tabObj ps) os) :: post)) (hPM : M P) (hPB : B.get? P = none) (hnd : ((pre ++ (P,D.obs P (tabObj ps) os) :: post).map (·.1)).Nodup)
   {params : Arguments} {body : Expr} {scope : Scope} {pos : Pos} (hT : yN qs ps os) (hq : (pos,env.qual ++ "<lambda>") ∈ qs) (hdef : defaultsOf params env = ([],[])) (hc : yH names scope = true) {Q : Value → Shared → Prop}
   (hQ : ∀ f fo fd c' oc cl ps' os' s',fo.data = .func fd → Z6 fd params (.expr body) scope (env.qual ++ "<lambda>") c' cl → vV oc (env.qual ++ "<lambda>") → yN qs ps' os' → J7 prog w s'.heap M scope ρ cl →
     En prog w B names env s'.heap M ρ (pre ++ (P,.obs P (tabObj ps') os') :: post) → Rp prog w s'.heap M (.ref f) (.obs f fo [(c',oc)]) → Yb [P] s s' → Q (.ref f) s') :
   wpAny (model prog w) A (eval (.Lambda params body scope pos) env) Q E s:=by
 obtain ⟨cl,hcl,h1,h2⟩:=xM S.n hc
 obtain ⟨mb,G⟩:=T.gl
 have hgb : mainGlobals ≠ P ∧ s.heap.BuiltinsAt mg P:=by
   obtain ⟨bm,o,b1,b2,b3,b4,b5,b6,b7⟩:=T.bm
   refine ⟨fun q => ?_,bm,o,b1,b2,b3,fun q => ?_,S.base _ _ b4,b5,b6,b7⟩
   · obtain ⟨o,es,ep,e,_⟩:=G.g
     rw [q,hPB] at e; cases e
   · rw [q,hPB] at b4; cases b4
 obtain ⟨hgP,hb⟩:=hgb
 obtain ⟨c,hcode,C⟩:=T.code
 have hc0:=S.mem P _ (List.mem_append_right _ (.head _))
 have hPt : s.heap.get? P = some (tabObj ps):=by
   cases hc0 with | tab p _ => exact p
 have hg:=G.g.keeps S.base
 have hnM : ∀ b,s.heap.objs.size ≤ b → ¬ M b:=fun b hb m => by obtain ⟨o,e⟩:=S.old b m; exact absurd (Heap.lt_size e) (Nat.not_lt.mpr hb)
 refine kla_eval hdef ?_
 rcases hT.2 _ hq with hn | ⟨c',oc,hf,hm,hco⟩
 · refine kla_makeFunction (mg:=mg) hcl S.n.glob hg hcode (C.keeps S.base) hPt hT.1 hn hgP hb fun c' ctv h' tk hx hge hlt hrec htb => ?_
   obtain ⟨c₂,oc,vs,t,e2,hoc,hd,hv⟩:=hrec
   cases e2
   have hco : vV oc (env.qual ++ "<lambda>"):=⟨vs,t,hd,hv⟩
   have S':=S.turned hPM hPB hnd (fun b o n e => Heap.get?_push_of_some (kla_obj "<lambda>" (env.qual ++ "<lambda>") params body scope cl ((mg "__name__").getD .none) c' ctv) (hx b o n e)) (d':=.obs P (tabObj _) ((c',oc) :: os)) (.tab (Heap.get?_push_of_some _ htb) fun p hp => ?_) (XU hc0)
   · refine hQ _ _ _ c' oc cl _ _ _ rfl ⟨rfl,rfl,rfl,rfl,rfl,rfl,rfl,rfl,rfl,rfl⟩ hco (hT.more T.ap hq hn hco) (kc S' hc h1 h2) S' (.obs (Heap.get?_push_size _ rfl) (hnM _ (Nat.le_trans hge (Nat.le_of_lt hlt))) fun p hp => ?_) ⟨_,_,rfl,fun a o n e => Heap.get?_push_of_some _ (hx a o (by simpa using n) e)⟩
     cases List.mem_singleton.mp hp
     exact ⟨Heap.get?_push_of_some _ hoc,hnM _ hge⟩
   · rcases List.mem_cons.mp hp with rfl | hp
     · exact ⟨Heap.get?_push_of_some _ hoc,hnM _ hge⟩
     · cases hc0 with
       | tab _ r => exact ⟨Heap.get?_push_of_some _ (hx _ _ (fun q => (r p hp).2 (q ▸ hPM)) (r p hp).1),(r p hp).2⟩
 · refine kla_makeFunctionHit (mg:=mg) hcl S.n.glob hg hcode (C.keeps S.base) hPt hT.1 hf hb fun ctv h' tk hx hsz => ?_
   have kx : zR s.heap (h'.push (kla_obj "<lambda>" (env.qual ++ "<lambda>") params body scope cl ((mg "__name__").getD .none) c' ctv)):=fun a o e => Heap.get?_push_of_some _ (hx a o e)
   have S':=S.ext kx
   refine hQ _ _ _ c' oc cl _ _ _ rfl ⟨rfl,rfl,rfl,rfl,rfl,rfl,rfl,rfl,rfl,rfl⟩ hco hT (kc S' hc h1 h2) S' (.obs (Heap.get?_push_size _ rfl) (hnM _ hsz) fun p hp => ?_) ⟨_,_,rfl,fun a o n e => kx a o e⟩
   cases List.mem_singleton.mp hp
   cases hc0 with
   | tab _ r => exact ⟨kx _ _ (r _ hm).1,(r _ hm).2⟩
theorem QD {α σ : Type} {B : Heap} {scope : Scope} {elt target iter : Expr} {pos : Pos} {dsrc : D} {P : Addr} {pre post : List (Addr × D)} {dt : σ → D} {c₀ : σ} {Pc : Nat → σ → Prop} {Q : Value → Shared → Prop}
   (S : St prog w B s₀ Own₀ M₀ names env Own M ρ (pre ++ (P,dt c₀) :: post) s) (hP : Own P) (R : Rm A 0) (hc : yH names scope = true) (hsrc : Ev prog w A s.heap iter env (PS prog w M dsrc)) (ys : List α) (g : α → D) (hs : zb dsrc (ys.map g)) (bs : α → List (Str × RV)) (f : α → D)
   (hasg : ∀ y ∈ ys,wD prog w scope.names target (g y) (bs y)) (hapart : ∀ y ∈ ys,∀ x r,(x,r) ∈ bs y → scope.names.lookup x ≠ some .free) (hfs : ∀ x,foldedSetIterable iter env x = pure x) (hsz : ys.length ≤ sizeLine) (hp : Pc 0 c₀)
   (turn : ∀ i y c env' s M' E Q,(env'.code = env.code ∧ env'.qual = env.qual) → ys[i]? = some y → Pc i c → (∀ a,M a → M' a) → En prog w B scope.names env' s.heap M' (bs y ++ xV scope.names ρ) (pre ++ (P,dt c) :: post) →
     (∀ v s' c',Pc (i + 1) c' → Yb [P] s s' → zc prog w s'.heap M' P (dt c') → Rp prog w s'.heap M' v (f y) → Q v s') → wpAny (model prog w) A (eval elt env') Q E s)
   (hQ : ∀ v c s',Pc ys.length c → St prog w B s₀ Own₀ M₀ names env Own M ρ (pre ++ (P,dt c) :: post) s' → Rp prog w s'.heap M v (.list (ys.map f)) → Q v s') :
   wpAny (model prog w) A (eval (.ListComp elt [⟨target,iter,[],0⟩] scope pos) env) Q E s:=by
 rw [eval_ListComp]
 have hPM:=S.own P hP
 have hPB:=S.base P hP
 have hnd : ∀ c,((pre ++ (P,dt c) :: post).map (·.1)).Nodup:=fun c => by
   have:=S.nodup
   rw [List.map_append,List.map_cons] at this ⊢
   exact this
 refine wq (B:=B) (M:=M) (ρ:=ρ) (dsrc:=dsrc) (Z:=fun s₁ _ => Keeps s s₁) (W:=[P]) (μ:=fun c => pre ++ (P,dt c) :: post) (Pc:=fun i c outs => Pc i c ∧ outs = (ys.take i).map f) S.e.n R hc ys g hs bs _ (Y7 elt target iter scope pos) hasg hapart hfs (fun a m => by cases List.mem_singleton.mp m; exact ⟨hPM,hPB⟩) (fun c a m => by cases List.mem_singleton.mp m; exact ⟨dt c,by simp⟩) (fun c c' a d m => ?_) (hsrc s E _ (zR.refl _) fun xv s₁ k₁ rx => ⟨c₀,k₁,⟨hp,rfl⟩,S.e.ext (ke k₁),.inl rx,fun a m e => by cases List.mem_singleton.mp m; exact Rp.ref_not (e ▸ rx) hPM⟩) ?_ ?_
 · rcases List.mem_append.mp m with m | m
   · exact ⟨d,List.mem_append_left _ m⟩
   · rcases List.mem_cons.mp m with e | m
     · cases e; exact ⟨dt c',by simp⟩
     · exact ⟨d,List.mem_append_right _ (.tail _ m)⟩
 · rintro s₁ _ hz i y c outs s₂ env' M' T D E' hcq _ hy ⟨hP',rfl⟩ hMM hMn k hT hTM hTB hDF hDW hWF hpl hcl hcap hE F hacc
   have hmy : y ∈ ys:=List.mem_of_getElem? hy
   refine wpAny_mono (qU (W:=[P]) (μ:=fun c => pre ++ (P,dt c) :: post) (Z:=fun c' => Pc (i + 1) c') (ρx:=[]) (d:=f y) F hacc hT hTM hDF hDW hWF (fun c a d m => (hpl c a d m).1) ?_ (fun _ _ m => by cases m) (fun x c e => ?_) fun Q' hq => ?_) (fun _ s' q => ?_) fun _ _ x => x
   · rw [List.length_map]
     exact Nat.le_trans (by rw [List.length_take]; omega) hsz
   · rcases hcl x c e with h | ⟨v,_,t⟩
     · exact .inl (.inr ⟨x,h,e⟩)
     · exact .inr t
   · refine turn i y c env' s₂ M' E' Q' hcq hy hP' hMM hE fun v s' c' hc' ef hcont r => hq v s' c' hc' ef (fun a x m => ?_) r
     obtain ⟨h',tk,rfl,kk⟩:=ef
     have keep : a ≠ P → (a,x) ∈ pre ++ (P,dt c) :: post → zc prog w h' M' a x:=fun z m => (hE.mem a x m).to (fun o e => kk a o (by simpa using z) e) fun b o m e => ⟨kk b o (fun z => m (List.mem_singleton.mp z ▸ hMM P hPM)) e,m⟩
     have hne : ∀ p : Addr × Mine.D,p ∈ pre ∨ p ∈ post → p.1 ≠ P:=by
       intro p hp q
       have hnn:=hnd c
       rw [List.map_append,List.map_cons,List.nodup_append] at hnn
       rcases hp with hp | hp
       · exact hnn.2.2 _ (List.mem_map_of_mem hp) _ (.head _) q
       · exact (List.nodup_cons.mp hnn.2.1).1 (List.mem_map.mpr ⟨p,hp,q⟩)
     rcases List.mem_append.mp m with m | m
     · exact keep (hne (a,x) (.inl m)) (List.mem_append_left _ m)
     · rcases List.mem_cons.mp m with e | m
       · cases e; exact hcont
       · exact keep (hne (a,x) (.inr m)) (List.mem_append_right _ (.tail _ m))
   · obtain ⟨c',hc',q⟩:=q
     refine ⟨c',_,⟨hc',rfl⟩, ?_⟩
     rw [List.take_add_one,hy]
     simpa using q
 · rintro s₁ _ hz c outs acc C s' ⟨hP',rfl⟩ ef hC ⟨m,n⟩ r hmem
   rw [List.take_length] at r
   obtain ⟨h',tk,rfl,kk⟩:=ef
   refine ⟨m,n,fun h'' sb => ?_⟩
   have S₁:=S.step hz
   have hCM : ¬ M C:=fun z => by obtain ⟨o,e⟩:=S₁.e.old C z; rw [hC] at e; cases e
   have mv : ∀ a o,¬ (M a ∨ a = C) → h'.get? a = some o → h''.get? a = some o ∧ ¬ M a:=fun a o q e => ⟨sb.extBut a o (fun z => q (.inr z)) e,fun z => q (.inl z)⟩
   have hPC : P ≠ C:=fun z => hCM (z ▸ hPM)
   have ct : zc prog w h'' M P (dt c):=(hmem P (dt c) (by simp)).to (fun o e => sb.extBut P o hPC e) mv
   have S₂:=S₁.effect1 (h':=h'') (tk:=tk) (pre:=pre) (post:=post) rfl hP (fun b o n e => sb.extBut b o (fun z => by rw [z,hC] at e; cases e) (kk b o (by simpa using n) e)) ct
   exact hQ acc c _ hP' S₂ (r.to mv)
end
noncomputable def qM {α : Type} (n : Nat) (cmp : Nat → Nat → Bool) : KasT α → Option α
 | .ret a => some a
 | .ask i j k => if i < n ∧ j < n then qM n cmp (k (cmp i j)) else none
theorem ZZ {α : Type} {n : Nat} {cmp : Nat → Nat → Bool} {c : Nat → Nat → (Bool → Shared → Prop) → Shared → Prop} {Q : α → Shared → Prop} {s : Shared} (hc : ∀ i j C s,i < n → j < n → C (cmp i j) s → c i j C s) : ∀ (t : KasT α) (a : α),qM n cmp t = some a → Q a s → t.kasWp c Q s
 | .ret b,a,e,h => by cases e; exact h
 | .ask i j k,a,e,h => by
  rw [qM] at e
  by_cases hij : i < n ∧ j < n
  · rw [if_pos hij] at e
    exact hc i j _ s hij.1 hij.2 (ZZ hc (k (cmp i j)) a e h)
  · rw [if_neg hij] at e; cases e
section
variable {prog : Program} {w : World} {A : Around} {E : Value → Shared → Prop} {s : Shared}
theorem Yw {r : Addr} {a b c : Int} {t u v : Tok} {n : Nat} (hh : A.handled = none) (hr : IsRange s.heap r a b c t u v) (hsmall : Builtin.Range.small a b c = true) (hn : Builtin.Range.rangeSize a b c = n) (hlen : n ≤ 2 ^ 24) {Q : List Value → Shared → Prop}
  (hQ : ∀ h' tk acc,zR s.heap h' → ItemsOf (fun i v => ∃ t,v = .int (a + i * c) t) acc n → Q acc.toList { s with heap:=h',toks:=tk }) : wpAny (model prog w) A (collect (.ref r)) Q E s:=by
 unfold collect
 refine wpAny_bind (wpAny_runValue (codeAny_builtin F.entry_proto_collect ?_))
 rw [Around.under_plainId F.plain_proto_collect _]
 show wpAny _ A.in1 (newList [] >>= fun l => again (.builtin "list.__iadd__" ⟨[l,.ref r],[]⟩)) _ _ s
 refine wpAny_bind (wpAny_newObj_type ?_)
 refine wpAny_pure ⟨plainId_quiet F.plain_list_iadd _,codeAny_builtin F.entry_list_iadd ?_⟩
 rw [Around.under_plainId F.plain_list_iadd _]
 show wpAny _ A.in1 (Builtin.List.listExtendWith (.ref s.heap.objs.size) (.ref r) (.ref s.heap.objs.size)) _ _ _
 refine wpAny_extend_range (R:=fun r s' => match r with
  | .ok (.ret v) => wpAny (model prog w) A (match v with
   | .ref a => do match (← load a).data with
    | .seq xs _ => pure xs.toList
    | _ => unsupported "internal:collect"
   | _ => unsupported "internal:collect") Q E s'
  | .ok _ => False
  | .error e => E e s') (s:={ s with heap:=s.heap.push { cls:=.type "list",data:=.seq ([] : List Value).toArray } }) hh (Heap.get?_push_of_some _ hr) hsmall hn hlen s.heap.objs.size (.ref s.heap.objs.size) 0 (Heap.get?_push_size _ rfl) fun h' tk acc c' hk hS hI => ?_
 show wpAny _ A (load s.heap.objs.size >>= _) _ _ _
 refine wpAny_bind (wpAny_load hS ?_)
 refine wpAny_pure (hQ h' tk acc (fun b o e => hk b o (fun z => ?_) (Heap.get?_push_of_some _ e)) hI)
 rw [z] at e; exact absurd (Heap.lt_size e) (Nat.lt_irrefl _)
theorem Qp (keys : Array Value) (vs : List Value) (hs : keys.size = vs.length) {i : Nat} {k v : Value} (h1 : keys[i]? = some k) (h2 : vs[i]? = some v) : kas_item (keys.zip vs.toArray) i = (k,v):=by
 have e : (keys.zip vs.toArray)[i]? = some (k,v):=by
  rw [← Array.getElem?_toList,ksk_zip]
  rw [List.getElem?_zip_eq_some]
  exact ⟨by rw [Array.getElem?_toList]; exact h1,h2⟩
 unfold kas_item
 rw [Array.getD_eq_getD_getElem?,e]; rfl
theorem QO {a kS : Addr} {e1 e : Nat} {keys : Array Value} {vs : List Value} {key : Nat → Int} {p : Array Nat} {P : PySem.Fin → Shared → Prop} (hsz : keys.size = vs.length) (h2 : 2 ≤ vs.length) (h64 : vs.length < 64)
   (hk : ∀ i < vs.length,∃ t,keys[i]? = some (.int (key i) t)) (hp : qM vs.length (fun i j => decide (key i < key j)) (kas_sort vs.length) = some p) (hpb : ∀ i ∈ p.toList,i < vs.length) (hka : kS ≠ a) (nk : s.heap.get? kS = some (seqObj "list" keys e)) (na : s.heap.get? a = some (seqObj "list" #[] e1))
   (h : ∀ h' c,p.size = vs.length → (∀ b o,b ≠ a → b ≠ kS → s.heap.get? b = some o → h'.get? b = some o) → h'.get? a = some (seqObj "list" (p.map fun i => vs.getD i .none) c) → P (.done (.ret .none)) { s with heap:=h' }) :
   wpAny (model prog w) A (ksk_end a false vs.toArray e1 (.ref kS) keys) P E s:=by
 have hit : ∀ i < vs.length,∃ t,kas_item (keys.zip vs.toArray) i = (.int (key i) t,vs.getD i .none):=fun i hi => by
   obtain ⟨t,e⟩:=hk i hi
   exact ⟨t,Qp keys vs hsz e (by simp [hi])⟩
 have hints : IntsAre keys.toList ((List.range vs.length).map key):=by
   have : ∀ (l : List Value) (g : Nat → Int) (j : Nat),(∀ i < l.length,∃ t,l[i]? = some (.int (g (j + i)) t)) → IntsAre l ((List.range' j l.length).map g):=by
    intro l
    induction l with
    | nil => intro g j _; exact .nil
    | cons x l ih =>
     intro g j hl
     obtain ⟨t,e⟩:=hl 0 (by simp)
     have e : x = .int (g j) t:=by simpa using e
     rw [e,List.length_cons,List.range'_succ,List.map_cons]
     refine .cons _ _ (ih g (j + 1) fun i hi => ?_)
     obtain ⟨t',e'⟩:=hl (i + 1) (by rw [List.length_cons]; omega)
     refine ⟨t', ?_⟩
     rw [show j + 1 + i = j + (i + 1) by omega]
     simpa using e'
   have h:=this keys.toList key 0 fun i hi => by
    rw [Array.length_toList,hsz] at hi
    obtain ⟨t,e⟩:=hk i hi
    exact ⟨t,by rw [Array.getElem?_toList,Nat.zero_add]; exact e⟩
   rw [Array.length_toList,hsz] at h
   rw [List.range_eq_range']
   exact h
 have hn : (keys.zip vs.toArray).size = vs.length:=by rw [Array.size_zip,hsz,List.size_toArray,Nat.min_self]
 unfold ksk_end
 simp only [Bool.false_eq_true,if_false]
 have h2' : ¬ vs.toArray.size < 2:=by rw [List.size_toArray]; omega
 rw [if_neg h2',if_neg h2',ksk_kind hints (by rw [hsz]; exact h2)]
 refine wpAny_bind (wpAny_pure ?_)
 have hst : SortSt.mk' oneType' (keys.zip vs.toArray) #[] 7 none = kas_st oneType' (keys.zip vs.toArray) (List.toArray (List.range vs.length)):=by
   unfold kas_st
   have:=kas_range (keys.zip vs.toArray)
   rw [hn] at this
   rw [this]
 rw [hst]
 have hrun : (kas_sort vs.length).kasWp (kas_cmp prog w A oneType' (keys.zip vs.toArray)) (fun p' s' => p' = p ∧ s' = s) s:=by
   refine ZZ (n:=vs.length) (cmp:=fun i j => decide (key i < key j)) (fun i j C s' hi hj hC => ?_) _ _ hp ⟨rfl,rfl⟩
   obtain ⟨t,e⟩:=hit i hi
   obtain ⟨u,e'⟩:=hit j hj
   show wpAny _ _ (keyLt' oneType' _ _) _ _ _
   rw [e,e',keyLt'_oneType]
   exact oneLt_int hC
 have kr : kasC (model prog w) A E sortRuns' (fun _ st' s' => s' = s ∧ p.size = vs.length ∧ arrOf st' = p.map (kas_item (keys.zip vs.toArray)) ∧ failedOf st' = none) (kas_st oneType' (keys.zip vs.toArray) (List.toArray (List.range vs.length))) s:=by
   refine kas_runs h2 h64 (fun p' st' s' q1 q2 q3 q4 => ?_) hrun
   obtain ⟨rfl,rfl⟩:=q4
   exact ⟨rfl,q1,q2,q3⟩
 unfold kasC at kr
 refine wpAny_bind (wpAny_mono kr (fun r s' q => ?_) fun _ _ x => x)
 · obtain ⟨⟨⟩,st'⟩:=r
   obtain ⟨rfl,q1,q2,q3⟩:=q
   dsimp only at q2 q3 ⊢
   have hout : (arrOf st').map (·.2) = p.map fun i => vs.getD i .none:=by
    rw [q2,Array.map_map]
    refine Array.map_congr_left fun i hi => ?_
    obtain ⟨t,e⟩:=hit i (hpb i (by simpa using hi))
    simp [Function.comp,e]
   have hX : (p.map fun i => vs.getD i .none).size = vs.length:=by rw [Array.size_map]; exact q1
   have h:=fun h' c => h h' c q1
   unfold ksk_tail
   dsimp only
   rw [hout,q3]
   generalize (p.map fun i => vs.getD i .none) = X at h hX ⊢
   have s1:=Heap.SameBut.update s'.heap kS (Obj.mapSeq fun _ => (#[] : Array Value))
   have na1 : (s'.heap.update kS (Obj.mapSeq fun _ => (#[] : Array Value))).get? a = some (seqObj "list" #[] e1):=(s1.2 a hka.symm).trans na
   have s2:=Heap.SameBut.update (s'.heap.update kS (Obj.mapSeq fun _ => (#[] : Array Value))) a (Obj.mapSeq fun _ => X)
   obtain ⟨c2,hc2⟩ : ∃ c2,((s'.heap.update kS (Obj.mapSeq fun _ => (#[] : Array Value))).update a (Obj.mapSeq fun _ => X)).get? a = some (seqObj "list" X c2):=⟨_,get?_update_seq na1 fun _ => X⟩
   refine wpAny_bind (listUpdate_at nk rfl ?_ (by rw [hsz,sizeLine_eq]; omega) (Nat.zero_le _))
   refine wpAny_bind (wpAny_letGo ?_)
   refine wpAny_bind (seqEpoch_at na1 rfl ?_)
   refine wpAny_bind (listUpdate_at na1 rfl ?_ (Nat.zero_le _) (Nat.le_trans (Nat.le_of_eq hX) (by rw [sizeLine_eq]; omega)))
   simp only [bne_self_eq_false,Bool.false_eq_true,if_false]
   exact wpAny_pure (h _ c2 (fun b o n1 n2 e => (s2.2 b n1).trans ((s1.2 b n2).trans e)) hc2)
structure Vf (h₀ : Heap) (vs : List Value) (key : Nat → Int) (a kS : Addr) (e1 : Nat) (i : Nat) (h' : Heap) : Prop where
 ext : zR h₀ h'
 la : h'.get? a = some (seqObj "list" #[] e1)
 keys : ∃ kA e,h'.get? kS = some (seqObj "list" kA e) ∧ kA.size = i ∧ ∀ j < i,∃ t,kA[j]? = some (.int (key j) t)
theorem VU {k : Nat} {Bk : Heap} {M₁ : Addr → Prop} {f : Addr} {step : D → D} {key : Nat → Int} {vs : List Value} {a : Addr} {n₀ : Nat} {p : Array Nat} {P : PySem.Fin → Shared → Prop} {h₀ : Heap}
  (R : Rm A k) (XB : zR Bk h₀) (hold : ∀ a,M₁ a → ∃ o,h₀.get? a = some o) (X0 : zR h₀ s.heap) (ha0 : h₀.get? a = none) (ho : s.heap.get? a = some (seqObj "list" vs.toArray n₀))
  (K : ya prog w k Bk M₁ f ((List.range vs.length).map fun i : Nat => D.int (i : Int)) (fun _ : Unit => True) (fun _ => []) (fun c d => (c,step d))) (hst : ∀ i : Nat,i < vs.length → step (.int (i : Int)) = .int (key i)) (hvs : ∀ i < vs.length,∃ t,vs[i]? = some (.int i t))
  (h2 : 2 ≤ vs.length) (h64 : vs.length < 64) (hp : qM vs.length (fun i j => decide (key i < key j)) (kas_sort vs.length) = some p) (hpb : ∀ i ∈ p.toList,i < vs.length)
  (h : ∀ h' tk c,p.size = vs.length → zR h₀ h' → h'.get? a = some (seqObj "list" (p.map fun i => vs.getD i .none) c) → P (.done (.ret .none)) { s with heap:=h',toks:=tk }) :
  wpAny (model prog w) A (ksk_tree a (.ref f) false) P E s:=by
 have ha : a < s.heap.objs.size:=Heap.lt_size ho
 have s1:=Heap.SameBut.update s.heap a (Obj.mapSeq fun _ => (#[] : Array Value))
 obtain ⟨e1,ho1⟩ : ∃ e1,(s.heap.update a (Obj.mapSeq fun _ => (#[] : Array Value))).get? a = some (seqObj "list" #[] e1):=⟨_,get?_update_seq ho fun _ => #[]⟩
 have hkS : ((s.heap.update a (Obj.mapSeq fun _ => (#[] : Array Value))).push (seqObj "tuple" vs.toArray 0)).objs.size = s.heap.objs.size + 1:=by rw [size_push',Heap.size_update]
 unfold ksk_tree
 refine wpAny_bind (listItems_at ho rfl ?_)
 refine wpAny_bind (listUpdate_at ho rfl ?_ (by rw [List.size_toArray,sizeLine_eq]; omega) (Nat.zero_le _))
 refine wpAny_bind (seqEpoch_at ho1 rfl ?_)
 refine wpAny_bind (wpAny_newTuple ?_ (by show vs.length ≤ _; rw [sizeLine_eq]; omega))
 refine wpAny_bind (wpAny_newList ?_ (Nat.zero_le _))
 refine wpAny_holding ?_
 rw [hkS]
 have hka : s.heap.objs.size + 1 ≠ a:=Nat.ne_of_gt (Nat.lt_succ_of_lt ha)
 have hk0 : h₀.get? (s.heap.objs.size + 1) = none:=by
  cases e : h₀.get? (s.heap.objs.size + 1) with
  | none => rfl
  | some o => exact absurd (Nat.lt_of_succ_lt (Heap.lt_size (X0 _ _ e))) (Nat.lt_irrefl _)
 have J0 : Vf h₀ vs key a (s.heap.objs.size + 1) e1 0 (((s.heap.update a (Obj.mapSeq fun _ => (#[] : Array Value))).push (seqObj "tuple" vs.toArray 0)).push (seqObj "list" #[] 0)):=by
  refine ⟨fun b o e => Heap.get?_push_of_some _ (Heap.get?_push_of_some _ ((s1.2 b fun z => by rw [z,ha0] at e; cases e).trans (X0 b o e))),Heap.get?_push_of_some _ (Heap.get?_push_of_some _ ho1),#[],0, ?_,rfl,fun j hj => absurd hj (Nat.not_lt_zero _)⟩
  rw [← hkS]; exact Heap.get?_push_size _ rfl
 unfold ksk_rest
 refine wpAny_bind (wpAny_rule ?_)
 rw [List.forIn_toArray]
 refine wpAny_bind (ksk_fold (fun i s' => ∃ h' tk,s' = { s with heap:=h',toks:=tk } ∧ Vf h₀ vs key a (s.heap.objs.size + 1) e1 i h') vs 0 _ ⟨_,s.toks,rfl,J0⟩ ?step ?done)
 case step =>
  rintro j x s' hx ⟨h',tk,rfl,J⟩
  simp only [Nat.zero_add] at J ⊢
  have hj : j < vs.length:=(List.getElem?_eq_some_iff.mp hx).1
  obtain ⟨t,et⟩:=hvs j hj
  have hx' : x = .int j t:=Option.some.inj (hx.symm.trans et)
  subst hx'
  obtain ⟨kA,e,q1,q2,q3⟩:=J.keys
  refine wpAny_bind (wpAny_attempt ?_)
  refine K A M₁ { s with heap:=h',toks:=tk } _ _ () (.int j) _ R trivial (XB.trans J.ext) (fun b o m _ => m) (fun b m => m) (fun b m => by obtain ⟨o,e⟩:=hold b m; exact ⟨o,J.ext b o e⟩) (List.mem_map.mpr ⟨j,List.mem_range.mpr hj,rfl⟩) (.int _ _) (fun b y m => by cases m) ?_
  intro r s'' ef _ rr
  obtain ⟨h'',tk'',rfl,kk⟩:=ef
  dsimp only at rr
  rw [hst j hj] at rr
  obtain ⟨t2,rfl⟩:=rr.int_inv
  have nk : h''.get? (s.heap.objs.size + 1) = some (seqObj "list" kA e):=kk _ _ (by simp) q1
  have na : h''.get? a = some (seqObj "list" #[] e1):=kk _ _ (by simp) J.la
  have s2:=Heap.SameBut.update h'' (s.heap.objs.size + 1) (Obj.mapSeq (·.push (Value.int (key j) t2)))
  obtain ⟨c2,hc2⟩ : ∃ c2,(h''.update (s.heap.objs.size + 1) (Obj.mapSeq (·.push (Value.int (key j) t2)))).get? (s.heap.objs.size + 1) = some (seqObj "list" (kA.push (.int (key j) t2)) c2):=⟨_,get?_update_seq nk (·.push (Value.int (key j) t2))⟩
  refine wpAny_bind (listUpdate_at nk rfl ?_ (by rw [q2,sizeLine_eq]; omega) (Nat.le_trans (Nat.le_of_eq (Array.size_push ..)) (by rw [q2,sizeLine_eq]; omega)))
  refine wpAny_pure ⟨rfl,_,_,rfl,fun b o e => (s2.2 b fun z => by rw [z,hk0] at e; cases e).trans (kk b o (by simp) (J.ext b o e)),(s2.2 a hka.symm).trans na,_,c2,hc2,by rw [Array.size_push,q2],fun i hi => ?_⟩
  rw [Array.getElem?_push]
  by_cases hij : i = kA.size
  · rw [if_pos hij]; rw [hij,q2]; exact ⟨t2,rfl⟩
  · rw [if_neg hij]; exact q3 i (by omega)
 case done =>
  rintro s' ⟨h',tk,rfl,J⟩
  simp only [Nat.zero_add] at J
  obtain ⟨kA,e,q1,q2,q3⟩:=J.keys
  refine wpAny_bind (listItems_at q1 rfl ?_)
  refine QO (s:={ s with heap:=h',toks:=tk }) q2 h2 h64 q3 hp hpb hka q1 J.la fun h'' c g1 g2 g3 => h h'' tk c g1 (fun b o e => g2 b o (fun z => by rw [z,ha0] at e; cases e) (fun z => by rw [z,hk0] at e; cases e) (J.ext b o e)) g3
theorem Z5 {k : Nat} {Bk : Heap} {M₁ : Addr → Prop} {f r : Addr} {step : D → D} {key : Nat → Int} {n : Nat} {p : Array Nat} {Q : Value → Shared → Prop}
  (R : Rm A (k + 2)) (XB : zR Bk s.heap) (hold : ∀ a,M₁ a → ∃ o,s.heap.get? a = some o) (K : ya prog w k Bk M₁ f ((List.range n).map fun i : Nat => D.int (i : Int)) (fun _ : Unit => True) (fun _ => []) (fun c d => (c,step d))) (hst : ∀ i : Nat,i < n → step (.int (i : Int)) = .int (key i))
  (hr : Rp prog w s.heap M₁ (.ref r) (.rng 0 n 1)) (hsmall : Builtin.Range.small 0 n 1 = true) (hsize : Builtin.Range.rangeSize 0 n 1 = n)
  (h2 : 2 ≤ n) (h64 : n < 64) (hp : qM n (fun i j => decide (key i < key j)) (kas_sort n) = some p) (hpb : ∀ i ∈ p.toList,i < n)
  (hQ : ∀ v s',Keeps s s' → Rp prog w s'.heap M₁ v (.list (p.toList.map fun i : Nat => .int (i : Int))) → Q v s') :
  wpAny (model prog w) A (call (.builtin "sorted") [.ref r] [(Str.ofString "key",.ref f)]) Q E s:=by
 obtain ⟨r',t,u,x,e,hr',hm⟩:=hr.rng_inv
 cases e
 refine call_function_entry_kw kind_sorted plain_sorted entry_sorted (ksk_s1 _ _) ?_
 unfold Builtin.«sorted»
 refine wpAny_bind (m:=checkCount "sorted" 1 1 _) (wpAny_pure ?_)
 refine wpAny_bind (Yw (Rm.in1 (k:=k + 1) R).hh hr' hsmall hsize (by omega) fun h₁ tk₁ acc k₁ hI => ?_)
 refine wpAny_bind (wpAny_newList ?_ (by rw [Array.length_toList,hI.1,sizeLine_eq]; omega))
 dsimp only
 obtain ⟨hI1,hI2⟩:=hI
 have hvl : acc.toList.length = n:=by rw [Array.length_toList]; exact hI1
 have hL : (h₁.push (seqObj "list" acc.toList.toArray 0)).get? h₁.objs.size = some (seqObj "list" acc.toList.toArray 0):=Heap.get?_push_size _ rfl
 have hvs : ∀ i < acc.toList.length,∃ t,acc.toList[i]? = some (.int i t):=fun i hi => by
  have hi' : i < acc.size:=by simpa using hi
  obtain ⟨t,e⟩:=hI2 i acc[i] (Array.getElem?_eq_getElem hi')
  refine ⟨t, ?_⟩
  rw [Array.getElem?_toList,Array.getElem?_eq_getElem hi',e]
  simp
 have ha0 : s.heap.get? h₁.objs.size = none:=by
  cases e : s.heap.get? h₁.objs.size with
  | none => rfl
  | some o => exact absurd (Heap.lt_size (k₁ _ _ e)) (Nat.lt_irrefl _)
 refine wpAny_bind (wpAny_holding (wpAny_call_entry_kw slot_list_sort ⟨_,hL,rfl⟩ entry_list_sort ?body (ksk_l1 _ _)))
 case body =>
  show wpAny (model prog w) A.in1.in1 (Builtin.«list.sort» ⟨[.ref h₁.objs.size],[(Str.ofString "key",.ref f)]⟩) _ _ _
  rw [ksk_t1]
  subst hvl
  refine VU (s:={ s with heap:=h₁.push (seqObj "list" acc.toList.toArray 0),toks:=tk₁ }) (h₀:=s.heap) (Rm.in1 (Rm.in1 R)) XB hold (fun b o e => Heap.get?_push_of_some _ (k₁ b o e)) ha0 hL K hst hvs h2 h64 hp hpb fun h' tk c hps X' hc => ⟨_,rfl, ?_⟩
  refine wpAny_pure ⟨_,rfl,hQ _ _ ⟨h',tk,rfl,X'⟩ (.list (vs:=(p.map fun i => acc.toList.getD i .none).toList) ⟨c,by rw [Array.toArray_toList]; exact hc⟩ (fun m => by obtain ⟨o,e⟩:=hold _ m; rw [ha0] at e; cases e) ?_)⟩
  rw [Array.toList_map]
  have : ∀ l : List Nat,(∀ i ∈ l,i < acc.toList.length) → zE prog w h' M₁ (l.map fun i => acc.toList.getD i .none) (l.map fun i : Nat => .int (i : Int)):=by
   intro l
   induction l with
   | nil => intro _; exact .nil
   | cons i l ih =>
    intro hl
    obtain ⟨t,e⟩:=hvs i (hl i (.head _))
    refine .cons ?_ (ih fun j hj => hl j (.tail _ hj))
    show Rp prog w h' M₁ (acc.toList.getD i .none) (.int (i : Int))
    rw [List.getD_eq_getElem?_getD,e]
    exact .int _ _
  exact this _ hpb
end
section
variable {prog : Program} {w : World} {A : Around} {B : Heap} {h : Heap} {env : Env} {M : Addr → Prop} {s₀ s : Shared} {Own₀ M₀ Own : Addr → Prop} {names : zJ} {ρ : List (Str × RV)} {μ : List (Addr × D)} {E : Value → Shared → Prop} {rest : List Stmt} {k : Nat} {C N : Addr} {mN : Str → Option Value}
theorem Xn (X : ClsAt B C N mN) {M' : Model} (h : Heap) (XB : zR B h) : ∃ k,(k = Keeper.frame ∨ k = Keeper.machine ∨ k = Keeper.boundFrame) ∧ Looks M' h (keeperOf (.ref C)) k:=by
 obtain ⟨nm,q,bs,sn,sub,col,dd,k0,k1,k2,k3,k5,hC⟩:=X.obj
 refine ⟨.machine,.inr (.inl rfl),fun A Q E s kk q => ?_⟩
 obtain ⟨hp,g,d,t,os⟩:=s
 exact wpAny_keeperOf_exc (kk _ _ (XB _ _ hC)) q
theorem Qk {fx : Str} {fp pos : Pos} {es : List Expr} {rs : List RV} (S : En prog w B names env s.heap M ρ μ) (X : ClsAt B C N mN) (hf : Ev prog w A s.heap (.Name fx fp) env (fun _ u => u = .ref C)) (hx : jI prog w A s.heap env M es rs) {Q : Value → Shared → Prop}
  (hQ : ∀ vs s',Keeps s s' → zP prog w s'.heap M vs rs → wpAny (model prog w) A (PySem.call (.ref C) vs) Q E s') :
  wpAny (model prog w) A (eval (.Call (.Name fx fp) es [] pos) env) Q E s:=by
 refine wpAny_Call_Name_kw (hf s E _ (zR.refl _) fun u s₁ k₁ e => ?_)
 subst e
 refine callWith_of (P:=zR B) (by rw [hx.noStar]; rfl) (fun h' X' => Xn X h' X') ?_
 refine v7 hx (ke k₁) fun vs s₂ k₂ rs => ?_
 exact ⟨S.base.trans ((ke k₁).trans (ke k₂)),hQ vs s₂ (zA k₁ k₂) rs⟩
theorem Yp {h : Heap} {M : Addr → Prop} : ∀ {vs : List Value} {ns : List Int},zE prog w h M vs (ns.map .int) → IntsAre vs ns
 | [],[],_ => .nil
 | [],n :: ns,r => by cases r
 | v :: vs,[],r => by cases r
 | v :: vs,n :: ns,.cons r rs => by
  obtain ⟨t,rfl⟩:=Rp.int_inv r
  exact .cons n t (Yp rs)
theorem zH.bytes (ns : List Int) (hr : ∀ n ∈ ns,0 ≤ n ∧ n < 256) (hz : ns.length ≤ sizeLine) : zH prog w k B (.type "bytes") [.list (ns.map .int)] (.bytes (byteArr ns)):=by
 intro A M s E Q vs R X old rs hQ
 obtain ⟨v,rfl,r1⟩:=rs.one_inv
 obtain ⟨a,us,rfl,p,q⟩:=r1.list_inv
 refine call_bytes_ints p.isList (Yp q) hr (by rw [q.length,List.length_map]; exact hz) R.hh fun h' t tk kk => hQ _ _ ⟨h',tk,rfl,kk⟩ (.bytes _ _)
theorem Ev.sliceB (S : En prog w B names env h M ρ μ) {value : Expr} {lower upper : Option Expr} {p pos : Pos} {b : Array UInt8} {lo hi : Option Int}
  (hv : Ev prog w A h value env (PR prog w M (.bytes b))) (hl : zd prog w A h M lower env lo) (hu : zd prog w A h M upper env hi) (hsz : b.size ≤ sizeLine) :
  Ev prog w A h (.Subscript value (.Slice lower upper none p) pos) env (PS prog w M (.bytes (KBy.picked b lo hi))):=by
 intro s E Q k hQ
 refine Subscript_ (hv s E _ k fun o s₁ k₁ ro => wpAny_Slice ?_)
 refine hl s₁ E _ (k.trans (ke k₁)) fun vl s₂ k₂ pl => ?_
 refine hu s₂ E _ (k.trans ((ke k₁).trans (ke k₂))) fun vu s₃ k₃ pu => ?_
 refine zd.none (M:=M) s₃ E _ (k.trans ((ke k₁).trans ((ke k₂).trans (ke k₃)))) fun vst s₄ k₄ pst => ?_
 cases pst
 obtain ⟨t,rfl⟩:=ro.bytes_inv
 have kk:=zA k₁ (zA k₂ (zA k₃ k₄))
 obtain ⟨ops,hso⟩:=zh (.Slice lower upper none p) (.bytes b t) (.ref s₄.heap.objs.size)
 refine tail_any (s:={ s₄ with heap:=s₄.heap.push { cls:=.type "slice",data:=.fields #[vl,vu,.none] } }) (typeIs_bytes _ _ _) FB.slot_bytes_getitem.lookup
  (getItem_meets (typeIs_bytes _ _ _) (by decide) FB.slot_bytes_getitem FB.entry_bytes_getitem (FB.args_bytes_getitem_2 _ _) (KBc.meets_slice2 b t _ pl pu)
  ⟨Heap.IsSliceOf.new _ _ _ _,Nat.le_trans (KBc.size_picked_le b lo hi) hsz,fun t' tk => hQ _ _ (zA kk (zQ s₄ { cls:=.type "slice",data:=.fields #[vl,vu,.none] } tk)) (.bytes _ _)⟩) hso
theorem Ev.itemC {value slice : Expr} {pos : Pos} {x : Str} {i : Int} {c : Nat} (hv : Ev prog w A h value env (PR prog w M (.str x))) (hi : Ev prog w A h slice env (PR prog w M (.int i))) (hr : (decide (i < -(2 ^ 63 : Int)) || decide (i ≥ 2 ^ 63)) = false) (hc : (seqIndex? i x.length).bind (x.cps[·]?) = some c) :
  Ev prog w A h (.Subscript value slice pos) env (PS prog w M (.str ⟨#[c]⟩)):=by
 intro s E Q k hQ
 refine Subscript_ (hv s E _ k fun o s₁ k₁ ro => hi s₁ E _ (k.trans (ke k₁)) fun iv s₂ k₂ ri => ?_)
 obtain ⟨t,rfl⟩:=ri.int_inv
 obtain ⟨u,rfl⟩:=ro.str_inv
 obtain ⟨ops,hs⟩:=zh slice (.str x u) (.int i t)
 refine tail_any (typeIs_str _ _ _) F.slot_str_getitem.lookup (getItem_gives (typeIs_str s₂ x u) (by decide) F.slot_str_getitem F.entry_str_getitem (F.args_str_getitem_2 _ _) (gives_str_getitem x i u t c hr hc) ⟨(by show 1 ≤ sizeLine; decide),hQ _ _ (zA k₁ (zA k₂ (zI s₂ _))) (.str _ _)⟩) hs
end
section
variable {prog : Program} {w : World} {A : Around} {env : Env} {s : Shared}
noncomputable def Xk (h₁ : Heap) (l₁ l : List Env) (e : Addr) (cls : String) (t0 : Addr) (args : List Value) (h : Heap) : Prop:=Heap.FlyingW (hideAll h₁ (xm l₁)) l e (.type cls) (.ref t0) h ∧ h₁.UpToSlots h ∧ h.TupAt t0 args
theorem XQ {M' : Model} {l : List Env} {L e : Addr} {cls : String} {args : List Value} {h₁ : Heap} {E : Value → Shared → Prop} {Q : Unit → Shared → Prop} (hfr : A.frames = some (env :: l)) (hf : env.frame = some L) (ok : yl h₁ (env :: l)) (hx : Heap.MadeExc h₁ s.heap e cls args)
  (hQ : ∀ h' t0,Xk h₁ (env :: l) l e cls t0 args h' → Q () { s with heap:=h' }) : wpAny M' A (leaving env (.ref e)) Q E s:=by
 obtain ⟨t,he,_,ht⟩:=hx.there
 have ok' : yl s.heap (env :: l):=ok.to fun a o e _ => ⟨o,hx.keeps a o e,rfl⟩
 have hen : (hideAll h₁ (xm (env :: l))).get? e = none:=by
  cases q : (hideAll h₁ (xm (env :: l))).get? e with
  | none => rfl
  | some o => have z:=hx.new; rw [of_hideAll _ q] at z; cases z
 refine wpAny_leaving_firstW (base:=hideAll h₁ (xm (env :: l))) hfr (ok'.ff fun a ha => hideAll_none _ ha) hf he (fun a o q => hx.keeps a o (of_hideAll _ q)) hen rfl rfl rfl fun h' hL => ?_
 obtain ⟨k1,⟨_,_,k2⟩,k3,k4⟩:=hL
 exact hQ h' t ⟨⟨k1,hen,k2,k3⟩,(Heap.UpToSlots.of_keeps hx.keeps).trans k4,Heap.TupAt.of_slots ⟨_,_,ht,rfl,rfl⟩ k4⟩
theorem QP {l l₁ : List Env} {L e t0 : Addr} {cls : String} {args : List Value} {h₁ : Heap} {t : Expr} {n : Str} {b₀ : Stmt} {suite : List Stmt} {pos : Pos} {hs : List ExceptHandler} {Q : Flow → Shared → Prop} {E : Value → Shared → Prop} (hfr : A.frames = some (env :: l)) (hf : env.frame = some L) (F : Xk h₁ l₁ (env :: l) e cls t0 args s.heap)
   (hexc : isSubtype (.type cls) (.type "BaseException") = pure true) (hnt : isSubtype (.type ((Manifest.find? cls).elim "type" fun x => x.metatype)) (.type "tuple") = pure false) (hsub : isSubtype (.type cls) (.type cls) = pure true)
   (ht : ∀ (s' : Shared) (E' : Value → Shared → Prop) (Q' : Value → Shared → Prop),zR (hideAll h₁ (xm l₁)) s'.heap → Q' (.type cls) s' → wpAny (model prog w) (A.mark (some (.ref e))) (eval t env) Q' E' s')
   (hQ : ∀ h',Zy l₁ h₁ h' → h'.ExcAt e cls (.ref t0) → h'.TupAt t0 args → ∀ E',wpAny (model prog w) (A.mark (some (.ref e))) (storeName env n (.ref e)) (fun _ s₃ => wpAny (model prog w) (A.mark (some (.ref e))) (execs (b₀ :: suite) env) (fun f s₄ => wpAny (model prog w) A (do bindName env n .none; unbindBehindTheSuite env n pos) (fun _ s₅ => Q f s₅) E s₄) (fun _ _ => False) s₃) E' { s with heap:=h' }) :
   wpAny (model prog w) A (noteFrame (.ref e) env) (fun _ s₂ => wpAny (model prog w) A (setFlight (.ref e) none) (fun _ s₃ => wpAny (model prog w) A (handleBy (.ref e) env (.ExceptHandler (some t) (some n) (b₀ :: suite) pos :: hs)) Q E s₃) E s₂) E s:=by
 obtain ⟨hfl,u0,tp⟩:=F
 refine wpAny_looks_onW hfr hf hfl fun h2 hh u1 => wpAny_landsW hh fun h3 hfl3 u2 => ?_
 have tp3:=(tp.of_slots u1).of_slots u2
 refine wpAny_handleBy_builtin_as (X:=cls) (T:=cls) (b:=true) hexc hnt hsub (ht _ _ _ hfl3.1 ⟨rfl, ?_, ?_⟩)
 · obtain ⟨ob,h4,h5⟩:=hfl3.there
   exact ⟨ob,h4,h5⟩
 · rw [if_pos rfl]
   obtain ⟨f1,f2,f3,f4⟩:=hfl3
   refine wpAny_setFlight_noneW f1 f3 f4.at fun h4 k1 k2 k3 k4 => ?_
   have u34 : h3.UpToSlots h4:=fun b o e n => ⟨o.slots,k4 b o e n⟩
   refine wpAny_mono (hQ h4 (Zy.of k1 (((u0.trans u1).trans u2).trans u34)) ?_ (tp3.of_slots u34) _) (fun _ s₃ q => wpAny_mono q (fun f s₄ q => q) fun _ _ x => x.elim) fun _ _ x => x
   obtain ⟨oe,vs,T,oT,ts,he,hcls,hd,_⟩:=k3
   exact ⟨oe,vs,he,hcls.1,hd,hcls.2⟩
end
section
variable {prog : Program} {w : World} {B : Heap} {mg mb : Str → Option Value}
noncomputable def jW : Str:=Str.ofString "lo must be non-negative"
theorem ky (G : Gl B mg mb) (hve : mg "ValueError" = none ∧ mb "ValueError" = some (.type "ValueError")) {f : Addr} {fd : FuncData} (H : zi B mg "bisect_left" kz f fd) {A : Around} {s : Shared} {M₁ : Addr → Prop} {va vx vk : Value} {t : Tok} {args : Args} {l : List Env} {Q E : Value → Shared → Prop}
   (R : Rm A 1) (X : zR B s.heap) (hold : ∀ a,M₁ a → ∃ o,s.heap.get? a = some o) (hb : BindsTo s fd args [("a",va),("x",vx),("lo",.int (-1) t),("hi",.none),("key",vk)])
   (hfr : A.frames = some l) (ok : yl s.heap l)
   (hX : ∀ h₁ h' tk e t0 tt l₁,zR s.heap h₁ → (∀ a ∈ xm l₁,a ∈ xm l ∨ s.heap.get? a = none) → Xk h₁ l₁ l e "ValueError" t0 [.str jW tt] h' → E (.ref e) { s with heap:=h',toks:=tk }) :
   wpAny (model prog w) A (PySem.call (.ref f) args.pos args.kw) Q E s:=by
 obtain ⟨o,ho,hd'⟩:=H.get
 refine wpAny_call (ja (M₀:=M₁) (Own₀:=fun a => False) (B:=B) (μ₀:=[]) (ρ₀:=[(Str.ofString "lo",.dat (.int (-1)))]) H.ok R (X f o ho) hd' G.lim X (ze H.code X) H.body hb (by simp only [List.map_cons,List.map_nil]; decide) ?_ hold (fun a z => z.elim) (fun x c e => by rw [H.clo] at e; cases e) ?_ (fun a d hm => by cases hm) (by simp) ?_)
 · rw [H.scope]; k_extra "kd"
 · intro x r hm
   cases List.mem_singleton.mp hm
   exact .inl ⟨.int (-1) t,xA,.int _ _⟩
 · intro env Own M s₁ hL R' hO hMM S
   rw [H.scope] at S
   obtain ⟨L,rfl⟩:=hL
   have R0 : Rm (A.deeper (zW fd L f)) 0:=R'.le (Nat.zero_le _)
   have hkeep:=S.keeps
   have hfresh : ∀ a,zO xw (zW fd L f) a → s.heap.get? a = none:=fun a z => by
    rcases S.fresh a (S.fr a z) with z | z
    · exact z.elim
    · exact z
   show wpAny _ _ (execs (_ :: _) _) _ _ _
   refine' vF (b:=decide ((-1 : Int) < 0)) S ?it ?ik
   case it =>
    refine' Tv.cmp R0 ?ql ?qr (zN.lt _ _) rfl
    case ql | qr => k_extra "z"
   case ik =>
    k_extra "next"
    rw [show decide ((-1 : Int) < 0) = true from rfl,if_pos rfl]
    show wpAny _ _ (execs (_ :: []) _) _ _ _
    refine wpAny_execs_cons ?_
    refine wpAny_Raise_call F.excCall_ValueError F.excRaise_ValueError R'.hh (by rfl) ?_
    refine Ev.glob (x:=Str.ofString "ValueError") G S.e ?g1 (.inr hve) ?g2 s' _ _ (zR.refl _) fun u s₂ k₂ hu => ⟨hu, ?_⟩
    case g1 | g2 => k_extra "kd"
    refine v7 (M:=M) (rs:=[.dat (.str jW)]) (.cons ?x1 .nil fun _ => rfl) (ke k₂) fun vs s₃ k₃ rs => ?_
    case x1 => k_extra "z"
    refine zP.use1 rs fun v1 r1 => ?_
    obtain ⟨tt,rfl⟩:=Rp.str_inv r1
    refine ⟨rfl,by show (1 : Nat) ≤ sizeLine; rw [sizeLine_eq]; decide,fun h₄ e hm => ?_⟩
    have k13:=zA (zA S.keeps k₂) k₃
    have ok3 : yl s₃.heap (zW fd L f :: l):=by
      intro en he
      rcases List.mem_cons.mp he with rfl | he
      · refine ⟨by rw [S.e.n.fn]; decide,L, ?_⟩
        obtain ⟨m,o,es,ep,e,hd,_⟩:=S.f.ns
        exact ⟨o,rfl,ke (zA k₂ k₃) _ _ e,fun vs z => by rw [hd] at z; cases z⟩
      · obtain ⟨g1,L',o,g2,g3,g4⟩:=ok en he
        exact ⟨g1,L',o,g2,ke k13 _ _ g3,g4⟩
    refine XQ (l:=l) (L:=L) (Around.frames_deeper hfr) rfl ok3 hm fun h5 t0 F => ?_
    obtain ⟨h6,tk6,e6,_⟩:=k13
    have:=hX s₃.heap h5 tk6 e t0 tt (zW fd L f :: l) (ke ⟨h6,tk6,e6,by assumption⟩) (fun a ha => ?_) F
    · rw [e6]; exact this
    · rcases List.mem_cons.mp (show a ∈ L :: xm l from ha) with rfl | ha
      · exact .inr (hfresh _ (.inl rfl))
      · exact .inl ha
end
noncomputable abbrev zL:=(zZ zt).names
structure wC (prog : Program) (w : World) (B : Heap) (mg mb : Str → Option Value) (C N : Addr) (mN : Str → Option Value) : Prop where
 run : VO B mg mb C N mN
 hdrs : mg "Headers" = some (.ref C)
 sum : mg "sum" = none ∧ mb "sum" = some (.builtin "sum")
 bytes : mg "bytes" = none ∧ mb "bytes" = some (.type "bytes")
 sorted : mg "sorted" = none ∧ mb "sorted" = some (.builtin "sorted")
 int : mg "int" = none ∧ mb "int" = some (.type "int")
 verr : mg "ValueError" = none ∧ mb "ValueError" = some (.type "ValueError")
 iter : mg "iter" = none ∧ mb "iter" = some (.builtin "iter")
 next : mg "next" = none ∧ mb "next" = some (.builtin "next")
 stop : mg "StopIteration" = none ∧ mb "StopIteration" = some (.type "StopIteration")
 hex : mg "hex" = none ∧ mb "hex" = some (.builtin "hex")
 flagT : ∃ fa,mg "COMPILER_FLAG_NAMES" = some (.ref fa) ∧ TabAt (PySem.intKind prog w) PyData.int B fa WV
 oct : ∃ f fd,zi B mg "_law_octets" zAM f fd ∧ ∀ v s,BindsTo s fd ⟨[v],[]⟩ [(Str.ofString "number",v)]
 flags : ∃ f fd,zi B mg "pretty_flags" flS f fd ∧ ∀ v s,BindsTo s fd ⟨[v],[]⟩ [(Str.ofString "flags",v)]
 name : ∃ f fd,zi B mg "_law_name" naS f fd ∧ ∀ v s,BindsTo s fd ⟨[v],[]⟩ [(Str.ofString "number",v)]
 pv : ∃ f fd,zi B mg "_parse_varint" pvS f fd ∧ ∀ v s,BindsTo s fd ⟨[v],[]⟩ [(Str.ofString "iterator",v)]
 read : ∃ f fd,zi B mg "_law_read" rdS f fd ∧ ∀ v s,BindsTo s fd ⟨[v],[]⟩ [(Str.ofString "octets",v)]
section
variable {prog : Program} {w : World} {A : Around} {B : Heap} {s₀ s : Shared} {Own₀ M₀ Own M : Addr → Prop} {names : zJ} {env : Env} {ρ : List (Str × RV)} {μ : List (Addr × D)} {Q : Flow → Shared → Prop} {E : Value → Shared → Prop} {rest : List Stmt} {mg mb : Str → Option Value} {mN : Str → Option Value} {C N : Addr}
theorem St.xout (S : St prog w B s₀ Own₀ M₀ names env Own M ρ μ s) (hL : env.frame = some env.locals) {h' : Heap} {tk : Nat} (X : Zy [env] s.heap h') : St prog w B s₀ Own₀ M₀ names env Own M ρ μ { s with heap:=h',toks:=tk }:=by
 have efr : xm [env] = [env.locals]:=by simp [xm,hL]
 refine S.slots (fs:=[env.locals]) (wr:=[]) (fun a ha => ?_) (fun a ha => by cases ha) (fun p hp => ⟨hp,by simp⟩) S.nodup (fun a o n _ q => X.1 a o (by rw [efr]; exact n) q) (fun a o _ q hd => X.2 a o q hd) (fun a ha o q vs hd => ?_)
 · cases List.mem_singleton.mp ha
   exact ⟨S.fr _ (.inl rfl),fun d hm => S.sep _ d hm (.inl rfl)⟩
 · cases List.mem_singleton.mp ha
   obtain ⟨m,o',es,ep,e,hd',_⟩:=S.f.ns
   rw [e] at q; cases q
   rw [hd'] at hd; cases hd
theorem WZ (H : wC prog w B mg mb C N mN) (R : Rm A 3) (S : St prog w B s₀ Own₀ M₀ names env Own M ρ μ s) (hL : env.frame = some env.locals) (hfr : A.frames = some [env]) {fp pos : Pos} {e : Expr} {b : Array UInt8} (hsmall : b.size ≤ 1000) (hgi : names.lookup (Str.ofString "_law_read") = some .globalImplicit)
   (he : Ev prog w A s.heap e env (PS prog w M (.bytes b))) (hst : ∀ rest,starEach (e :: rest) env = (false,eval e env) :: starEach rest env) {Q : Value → Shared → Prop}
   (hQ : ∀ v s',St prog w B s₀ Own₀ M₀ names env Own M ρ μ s' → Rp prog w s'.heap M v (.list ((vm b).map .int)) → Q v s') :
   wpAny (model prog w) A (eval (.Call (.Name (Str.ofString "_law_read") fp) [e] [] pos) env) Q E s:=by
 obtain ⟨f,fd,HR,hb⟩:=H.read
 obtain ⟨g,gd,HP,hbp⟩:=H.pv
 have G:=H.run.hdr.G
 refine xj (f:=.ref f) (rs:=[.dat (.bytes b)]) S.e (Ev.glob G S.e hgi (.inl HR.g) (by decide)) HR.keepy (.cons (r:=.dat (.bytes b)) he .nil hst) fun vs s₁ k₁ rs => ?_
 refine zP.use1 rs fun v r => ?_
 have S₁:=S.step k₁
 have efr : xm [env] = [env.locals]:=by simp [xm,hL]
 refine Wm (l:=[env]) G H.next H.iter H.stop HP hbp HR hb R hsmall S₁.e.base S₁.e.old r hfr (fun en he => ?_) (fun a ha => ?_) fun v s' hs' X rv => ?_
 · cases List.mem_singleton.mp he
   refine ⟨by rw [S.e.n.fn]; decide,env.locals, ?_⟩
   obtain ⟨m,o,es,ep,e,hd,_⟩:=S₁.f.ns
   exact ⟨o,hL,e,fun vs z => by rw [hd] at z; cases z⟩
 · rw [efr] at ha
   cases List.mem_singleton.mp ha
   exact S₁.base _ (S₁.fr _ (.inl rfl))
 · obtain ⟨h',tk,rfl⟩:=hs'
   exact hQ v _ (S₁.xout hL X) rv
end
noncomputable def yT (sc : List Int) : List Int:=(sc.take 60).map fun n => n.fmod 1000000
noncomputable def jD : List Int:=[56,350,8207,33,77]
noncomputable def yE (sc : List Int) : List Int:=(wp 0 5 1).map fun k => jD.getD k.toNat 0 + (zl (yT sc) (some k) none (some 5)).sum
noncomputable def xe (sums : List Int) : List Int:=sums.flatMap k6
noncomputable def xR : List Str:=["OPTIMIZED","NEWLOCALS","VARARGS","VARKEYWORDS","NESTED","GENERATOR","NOFREE","COROUTINE","ITERABLE_COROUTINE","ASYNC_GENERATOR","0x400","0x800","0x1000"].map Str.ofString
section
variable {prog : Program} {w : World} {A : Around} {B : Heap} {s₀ s : Shared} {Own₀ M₀ Own M : Addr → Prop} {names : zJ} {env : Env} {ρ : List (Str × RV)} {μ : List (Addr × D)} {h : Heap} {Q : Flow → Shared → Prop} {E : Value → Shared → Prop} {rest : List Stmt} {mg mb : Str → Option Value} {mN : Str → Option Value} {C N : Addr}
theorem wP {α β : Type} (f : α → β) (xs : List α) (lo hi st : Option Int) : zl (xs.map f) lo hi st = (zl xs lo hi st).map f:=by
 unfold zl
 rw [List.length_map,List.map_filterMap]
 refine qS fun i _ => ?_
 rw [List.getElem?_map]
theorem Q8 {names : zJ} (S : En prog w B names env h M ρ μ) {iter : Expr} {d : D} (he : Ev prog w A h iter env (PS prog w M d)) (s : Shared) (k : zR h s.heap) (E : Value → Shared → Prop) : wpAny (model prog w) A (eval iter env) (fun xv s₁ => ∃ c₀ : Unit,(fun s₁ (_ : Unit) => Keeps s s₁) s₁ c₀ ∧ En prog w B names env s₁.heap M ρ ((fun _ : Unit => μ) c₀) ∧ Rp prog w s₁.heap M xv d) E s :=
 he s E _ k fun v s' ks r => ⟨(),ks,S.ext (k.trans (ke ks)),r⟩
theorem JH {vs : List Value} {xs : List Int} (hi : IntsAre vs xs) : zE prog w h M vs (xs.map .int):=by
 induction hi with
 | nil => exact .nil
 | cons n t _ ih => exact .cons (.int n t) ih
theorem Ev.sliceScript {sa : Addr} {vs : List Value} {xs : List Int} (hB : B.IsList sa vs.toArray) (hi : IntsAre vs xs) (S : En prog w B names env h M ρ μ) {value : Expr} {lower upper : Option Expr} {p pos : Pos} {lo hi' : Option Int}
   (hv : Ev prog w A h value env (fun _ v => v = .ref sa)) (hl : zd prog w A h M lower env lo) (hu : zd prog w A h M upper env hi') (hsz : xs.length ≤ sizeLine) :
   Ev prog w A h (.Subscript value (.Slice lower upper none p) pos) env (PS prog w M (.list ((zl xs lo hi' none).map .int))):=by
 intro s E Q k hQ
 refine Subscript_ (hv s E _ k fun o s₁ k₁ ro => wpAny_Slice ?_)
 subst ro
 refine hl s₁ E _ (k.trans (ke k₁)) fun vl s₂ k₂ pl => ?_
 refine hu s₂ E _ (k.trans ((ke k₁).trans (ke k₂))) fun vu s₃ k₃ pu => ?_
 refine zd.none (M:=M) s₃ E _ (k.trans ((ke k₁).trans ((ke k₂).trans (ke k₃)))) fun vst s₄ k₄ pst => ?_
 have kk:=zA k₁ (zA k₂ (zA k₃ k₄))
 have kB : zR B (s₄.heap.push { cls:=.type "slice",data:=.fields #[vl,vu,vst] }):=fun a o e => Heap.get?_push_of_some _ (ke kk _ _ (k _ _ (S.base _ _ e)))
 have pl2 : (s₄.heap.push { cls:=.type "slice",data:=.fields #[vl,vu,vst] }).IsList sa vs.toArray:=by
   obtain ⟨o,e,r⟩:=hB
   exact ⟨o,kB _ _ e,r⟩
 obtain ⟨ops,hso⟩:=zh (.Slice lower upper none p) (.ref sa) (.ref s₄.heap.objs.size)
 have hlen : vs.length = xs.length:=hi.length
 have hr : zE prog w s₄.heap M vs (xs.map .int):=JH hi
 refine tail_any (s:={ s₄ with heap:=s₄.heap.push { cls:=.type "slice",data:=.fields #[vl,vu,vst] } }) pl2.typeIs slot_list_getitem.lookup
   (wpAny_getItem_list_slice pl2 (Heap.IsSliceOf.new ..) pl pu pst (by decide) (hQ _ _ (zA kk (zA (zQ s₄ { cls:=.type "slice",data:=.fields #[vl,vu,vst] } s₄.toks) (zQ _ _ s₄.toks))) ?_) (by rw [List.size_toArray,hlen]; exact hsz)) hso
 have e : slicePick vs.toArray lo hi' none = (zl vs lo hi' none).toArray:=by
   unfold slicePick zl
   simp
 rw [e]
 refine wK (h:=s₄.heap.push { cls:=.type "slice",data:=.fields #[vl,vu,vst] }) ?_ 0 (fun m => ?_)
 · rw [← wP]
   unfold zl
   rw [List.length_map,← hlen]
   exact (hr.pick _).ext fun _ _ e => Heap.get?_push_of_some _ e
 · obtain ⟨o,e⟩:=S.old _ m
   have:=ke kk _ _ (k _ _ e)
   exact absurd (Heap.lt_size (Heap.get?_push_of_some { cls:=.type "slice",data:=.fields #[vl,vu,vst] } this)) (Nat.lt_irrefl _)
theorem Kt (H : wC prog w B mg mb C N mN) {sa : Addr} {vs : List Value} {sc : List Int} (hB : B.IsList sa vs.toArray) (hi : IntsAre vs sc) (hsc : sc.length ≤ 63) (R : Rm A 3) (hso : ∀ t ∈ yE sc,0 ≤ t) (hoc : ∀ o ∈ xe (yE sc),0 ≤ o ∧ o < 256) (hol : (xe (yE sc)).length ≤ 1000)
  (S : St prog w B s₀ Own₀ M₀ zL env Own M [(Str.ofString "script",.val (.ref sa))] μ s)
  (hQ : ∀ s',St prog w B s₀ Own₀ M₀ zL env Own M [(Str.ofString "octets",.dat (.bytes (byteArr (xe (yE sc))))),(Str.ofString "sums",.dat (.list ((yE sc).map .int)))] μ s' → wpAny (model prog w) A (execs ((zC zt).drop 3) env) Q E s') :
  wpAny (model prog w) A (execs (zC zt) env) Q E s:=by
 have R0 : Rm A 0:=R.le (Nat.zero_le _)
 have G:=H.run.hdr.G
 have hr:=H.run.range
 have hsl : (yE sc).length = 5:=by unfold yE; rw [List.length_map,zr]; rfl
 show wpAny _ _ (execs (_ :: _ :: _ :: _) env) _ _ _
 refine' yr S ?a1 R0 ?a2 (dsrc:=.list ((sc.take 60).map .int)) ?a3 (sc.take 60) .int (zb.list _) (fun n => .int (n.fmod 1000000)) ?a4 ?a5 ?a6 ?a7 ?a8
 case a1 | a2 | a4 => k_extra "kd"
 case a5 => rw [List.length_take,sizeLine_eq]; k_extra "o"
 case a6 => k_extra "fs"
 case a3 =>
  refine' Ev.rd (Ev.cast (Ev.sliceScript (lo:=none) (hi':=some ((60 : Nat) : Int)) hB hi S.e ?qv zd.none ?qu (by rw [sizeLine_eq]; k_extra "o")) ?qq)
  case qv => exact Ev.var (r:=.val (.ref sa)) S.e (.head _) (by decide)
  case qu => k_extra "z"
  case qq => rw [j7]
 case a7 =>
  intro z hz env' h' M' kx hE
  k_extra "z"
 case a8 =>
  k_extra "next"
  have e1 : (sc.take 60).map (fun n => D.int (n.fmod 1000000)) = (yT sc).map .int:=by unfold yT; rw [List.map_map]; rfl
  rw [e1] at S
  have S2:=S.sub (ρ':=[(Str.ofString "taken",.dat (.list ((yT sc).map .int)))]) (by k_extra "sub")
  clear S
  have S:=S2
  clear S2
  have htl : (yT sc).length ≤ 60:=by unfold yT; rw [List.length_map,List.length_take]; k_extra "o"
  refine' yr S ?b1 R0 ?b2 (dsrc:=.rng 0 5 1) ?b3 (wp 0 5 1) .int (zb.rng rfl) (fun k => .int (jD.getD k.toNat 0 + (zl (yT sc) (some k) none (some 5)).sum)) ?b4 ?b5 ?b6 ?b7 ?b8
  case b1 | b2 => k_extra "kd"
  case b3 => k_extra "z"
  case b4 => k_extra "kd"
  case b5 => rw [zr,sizeLine_eq]; decide
  case b6 => k_extra "fs"
  case b7 =>
   intro z hz env' h' M' kx hE
   obtain ⟨i,hi⟩:=List.getElem?_of_mem hz
   have hz':=jH hi
   have hi5 : i < 5:=by
    have:=(List.getElem?_eq_some_iff.mp hi).1
    rw [zr] at this
    exact this
   subst hz'
   refine' Ev.bin (da:=.int (jD.getD (i : Int).toNat 0)) (db:=.int ((zl (yT sc) (some (i : Int)) none (some 5)).sum)) hE ?ql ?qr (yL.add _ _)
   case ql =>
    refine' Ev.rd (Ev.item (xs:=jD.map .int) (i:=(i : Int)) ?l1 ?l2 ?l3 ?l4 ?l5)
    case l1 => show Ev _ _ _ _ _ _ (PR _ _ _ (.list [.int 56,.int 350,.int 8207,.int 33,.int 77])); k_extra "z"
    case l2 => k_extra "z"
    case l3 | l4 => k_extra "o"
    case l5 =>
     show (jD.map D.int)[(i : Int).toNat]? = _
     have hb : jD.length = 5:=rfl
     rw [Int.toNat_natCast,List.getElem?_map,List.getElem?_eq_getElem (by k_extra "o"),List.getD_eq_getElem?_getD,List.getElem?_eq_getElem (by k_extra "o")]
     rfl
   case qr =>
    refine' Ev.rd (Ev.cast (Ev.call hE (R.le (by decide : 1 ≤ 3)) ?zfs1 ?zKs1 (xJ.cons ?zxs1 xJ.nil (fun _ => rfl)) (zH.sum (k:=0) ((zl (yT sc) (some (i : Int)) none (some 5)).map .int) ?zys1)) ?zqs1)
    case zfs1 => exact Ev.glob G hE (by k_extra "kd") (.inr H.sum) (by decide)
    case zKs1 => k_extra "z"
    case zys1 => simp [List.all_eq_true,Y3]
    case zqs1 =>
     rw [List.map_map]
     have : (jY ∘ D.int) = _root_.id:=by funext x; rfl
     rw [this,List.map_id]
    case zxs1 =>
     refine' Ev.rd (Ev.cast (Ev.slice (xs:=(yT sc).map .int) (lo:=some (i : Int)) (hi:=none) (st:=some 5) hE ?v1 ?v2 zd.none ?v4 (by decide) ?v3) ?v5)
     case v1 | v2 | v4 => k_extra "z"
     case v3 => rw [List.length_map,sizeLine_eq]; k_extra "o"
     case v5 => rw [wP]
  case b8 =>
   k_extra "next"
   have e2 : (wp 0 5 1).map (fun k => D.int (jD.getD k.toNat 0 + (zl (yT sc) (some k) none (some 5)).sum)) = (yE sc).map .int:=by unfold yE; rw [List.map_map]; rfl
   rw [e2] at S
   have S2:=S.sub (ρ':=[(Str.ofString "sums",.dat (.list ((yE sc).map .int)))]) (by k_extra "sub")
   clear S
   have S:=S2
   clear S2
   obtain ⟨of,ofd,HO,hbo⟩:=H.oct
   refine' yK (d:=.bytes (byteArr (xe (yE sc)))) S ?c1 ?c2 rfl ?c3
   case c2 => k_extra "kd"
   case c3 => exact fun s' S' => hQ s' (S'.sub (by k_extra "sub"))
   case c1 =>
    refine' Ev.call S.e R0 ?ff ?KK (xJ.cons ?xx xJ.nil (fun _ => rfl)) (zH.bytes (xe (yE sc)) hoc (by rw [sizeLine_eq]; k_extra "o"))
    case ff => exact Ev.glob G S.e (by k_extra "kd") (.inr H.bytes) (by decide)
    case KK => exact .inl fun _ e => by cases e
    case xx =>
     refine' Ev.rd (Ev.cast (Ev.ofCompTo ⟨_,_,rfl⟩ S.e.old fun s₂ k₂ => WE (B:=B) (names:=zL) (ρ:=[(Str.ofString "sums",.dat (.list ((yE sc).map .int)))]) (μ:=fun _ => μ) (dsrc:=.list ((yE sc).map .int)) S.e.n R0 ?d1 (yE sc) .int (zb.list _) (fun t => [(Str.ofString "total",.dat (.int t))]) (fun t => .list ((k6 t).map .int)) k6 .int (fun o => [(Str.ofString "octet",.dat (.int o))]) (fun _ o => .int o)
      ?d2 ?d3 ?d4 ?d5 ?d6 ?d7 ?d8 ?d9 ?d10 ?d11 (Q8 S.e (Ev.name S.e (.head _) (by decide)) s₂ k₂) ?d12 ?d13) ?qq)
     case d1 => k_extra "kd"
     case d2 => exact fun y _ => wD.name (by k_extra "kd")
     case d3 => exact fun y _ x r hm => by cases List.mem_singleton.mp hm; decide +kernel
     case d4 => k_extra "fs"
     case d5 => exact fun _ _ => zb.list _
     case d6 => exact fun y _ z _ => wD.name (by k_extra "kd")
     case d7 => exact fun y _ z _ x r hm => by cases List.mem_singleton.mp hm; decide +kernel
     case d8 =>
      intro y _ z _ x r hm r' hm'
      cases List.mem_singleton.mp hm
      have:=List.mem_singleton.mp hm'
      simp only [Prod.mk.injEq] at this
      exact absurd this.1 (by decide)
     case d9 => exact fun _ _ => rfl
     case d10 =>
      have : ((yE sc).flatMap fun y => (k6 y).map fun o => D.int o) = (xe (yE sc)).map .int:=by unfold xe; rw [List.map_flatMap]
      rw [this,List.length_map,sizeLine_eq]; k_extra "o"
     case d11 => exact fun _ _ a d m => ⟨d,m⟩
     case qq => unfold xe; rw [List.map_flatMap]
     case d12 =>
      intro y hy c env' h' M' hE
      refine' Ev.call hE (R.le (by decide : 1 ≤ 3)) ?f12 ?K12 ?x12 (zH.of_def G HO [Str.ofString "number"] (fun vs hl s => ?_) rfl (by simp) (by k_extra "kd") rfl (QB G hr y (hso y hy)))
      case f12 => k_extra "z"
      case K12 => exact HO.keepy
      case x12 => k_extra "z"
      obtain ⟨a,rfl⟩:=QK hl
      exact hbo a s
     case d13 =>
      intro y hy z hz c env' h' M' hE
      k_extra "z"
end
section
variable {prog : Program} {w : World} {A : Around} {B : Heap} {s₀ s : Shared} {Own₀ M₀ Own M : Addr → Prop} {names : zJ} {env : Env} {ρ : List (Str × RV)} {μ μ' μ₂ : List (Addr × D)} {h : Heap} {Q : Flow → Shared → Prop} {E : Value → Shared → Prop} {rest : List Stmt}
noncomputable def EvS (prog : Program) (w : World) (A : Around) (B : Heap) (s₀ : Shared) (Own₀ M₀ : Addr → Prop) (names : zJ) (env : Env) (Own M : Addr → Prop) (ρ : List (Str × RV)) (μ : List (Addr × D)) (e : Expr) (E : Value → Shared → Prop) (μ' : List (Addr × D)) (d : D) : Prop :=
 ∀ s,St prog w B s₀ Own₀ M₀ names env Own M ρ μ s → ∀ Q' : Value → Shared → Prop,(∀ v s',St prog w B s₀ Own₀ M₀ names env Own M ρ μ' s' → Rp prog w s'.heap M v d → Q' v s') → wpAny (model prog w) A (eval e env) Q' E s
noncomputable def ku (prog : Program) (w : World) (A : Around) (B : Heap) (s₀ : Shared) (Own₀ M₀ : Addr → Prop) (names : zJ) (env : Env) (Own M : Addr → Prop) (ρ : List (Str × RV)) (μ : List (Addr × D)) (t : Expr) (E : Value → Shared → Prop) (μ' : List (Addr × D)) (b : Bool) : Prop :=
 ∀ s,St prog w B s₀ Own₀ M₀ names env Own M ρ μ s → ∀ Q' : Bool → Shared → Prop,(∀ s',St prog w B s₀ Own₀ M₀ names env Own M ρ μ' s' → Q' b s') → wpAny (model prog w) A (isTrue t env (eval t env)) Q' E s
theorem ku.of_tv {t : Expr} {b : Bool} (ht : ∀ s,St prog w B s₀ Own₀ M₀ names env Own M ρ μ s → Tv prog w A s.heap t env b) : ku prog w A B s₀ Own₀ M₀ names env Own M ρ μ t E μ b :=
 fun s S Q' hQ => ht s S s E Q' (zR.refl _) fun s' k => hQ s' (S.step k)
theorem ku.or_nil {p : Pos} : ku prog w A B s₀ Own₀ M₀ names env Own M ρ μ (.BoolOp .Or [] p) E μ false:=fun s S Q' hQ => isTrue_or_nil (hQ s S)
theorem ku.or_cons {x : Expr} {xs : List Expr} {p : Pos} {b : Bool} (hx : ku prog w A B s₀ Own₀ M₀ names env Own M ρ μ x E μ₂ false) (hy : ku prog w A B s₀ Own₀ M₀ names env Own M ρ μ₂ (.BoolOp .Or xs p) E μ' b) :
  ku prog w A B s₀ Own₀ M₀ names env Own M ρ μ (.BoolOp .Or (x :: xs) p) E μ' b:=by
 intro s S Q' hQ
 refine isTrue_or (hx s S _ fun s₁ S₁ => ?_)
 exact hy s₁ S₁ Q' hQ
theorem ku.cmpL {l r : Expr} {op : CmpOp} {p : Pos} {da db : D} {b : Bool} (R : Rm A 0) (hl : EvS prog w A B s₀ Own₀ M₀ names env Own M ρ μ l E μ' da) (hr : ∀ s,St prog w B s₀ Own₀ M₀ names env Own M ρ μ' s → Ev prog w A s.heap r env (PR prog w M db)) (ho : zN prog w op da db b) (hm : behindInMarks op r = false) :
  ku prog w A B s₀ Own₀ M₀ names env Own M ρ μ (.Compare l [op] [r] p) E μ' b:=by
 intro s S Q' hQ
 refine wpAny_isTrue_Compare1 (hl s S _ fun a s₁ S₁ ra => ?_) hm
 refine hr s₁ S₁ s₁ E _ (zR.refl _) fun b s₂ k₂ rb => ?_
 exact ho A M s₂ E _ a b (by have:=R.hu; k_extra "o") (.inl (ra.ext (ke k₂))) rb fun s' k₃ => wpAny_truthy_bool (hQ s' (S₁.step (zA k₂ k₃)))
theorem ku.cast' {t : Expr} {b b' : Bool} (x : ku prog w A B s₀ Own₀ M₀ names env Own M ρ μ t E μ' b) (q : b = b') : ku prog w A B s₀ Own₀ M₀ names env Own M ρ μ t E μ' b':=q ▸ x
theorem Kj {t : Expr} {body : List Stmt} {pos : Pos} (S : St prog w B s₀ Own₀ M₀ names env Own M ρ μ s) (ht : ku prog w A B s₀ Own₀ M₀ names env Own M ρ μ t E μ' false)
  (k : ∀ s',St prog w B s₀ Own₀ M₀ names env Own M ρ μ' s' → wpAny (model prog w) A (execs rest env) Q E s') : wpAny (model prog w) A (execs (.If t body [] pos :: rest) env) Q E s:=by
 refine wpAny_execs_cons (wpAny_If (ht s S _ fun s₁ S₁ => ?_))
 exact wpAny_execs_nil (k s₁ S₁)
theorem Wl {k : Nat} (S : St prog w B s₀ Own₀ M₀ names env Own M ρ μ s) (R : Rm A k) {o : Expr} {apos pos pos2 : Pos} {name : Str} {T id : String} {es : List Expr} {d d' : D} {ds : List D}
   (hov : jK prog w A s.heap o env M d) (hT : Jw d = some T) (pa : PlainAttrs T) (slot : Slot T name id) (hty : typeOf (.builtin id) = pure (.type "method_descriptor"))
   (hx : ∀ a,ZU prog w A s.heap env (fun b => M b ∨ b = a) es ds) (hbase : attributeBase o name env (eval o env) = eval o env) (hfew : decide (es.length + 0 + 0 < 30) = true) (hline : (apos.endLine == pos.line) = true) (hc : xI prog w k (.builtin id) d ds d' .none)
   (hs : swapsWith (.Call (.Attribute o name apos) es [] pos) none pos2.line env = pure false)
   (hQ : ∀ s',St prog w B s₀ Own₀ M₀ names env Own M ρ μ s' → wpAny (model prog w) A (execs rest env) Q E s') :
   wpAny (model prog w) A (execs (.Expr (.Call (.Attribute o name apos) es [] pos) pos2 :: rest) env) Q E s:=by
 refine xk S.e.n ?_ hs
 refine PySem.wpAny_Call_method hbase ?_ hline pa slot hty (hov s E _ (zR.refl _) fun a s₁ k₁ n c => ?_)
 · rw [(hx 0).rd.few]; exact hfew
 have rr : Rd prog w s₁.heap (fun b => M b ∨ b = a) (.ref a) d:=.inr ⟨a,rfl,c⟩
 refine ⟨(vE hT rr).1,(vE hT rr).2, ?_⟩
 refine PySem.Calls.callWith_builtin (hx a).rd.noStar ?_
 refine wX (hx a) (ke k₁) fun vs s₂ k₂ rs => ?_
 refine hc A (fun b => M b ∨ b = a) s₂ E _ a vs R (.inr rfl) (c.ext (ke k₂)) rs fun v s' ef c' rv => hQ s' ?_
 obtain ⟨h',tk,rfl,kk⟩:=ef
 obtain ⟨h1,tk1,e1,x1⟩:=zA k₁ k₂
 refine S.step ⟨h',tk,by rw [e1],fun b o e => kk b o (fun z => ?_) (by rw [e1]; exact x1 b o e)⟩
 rw [List.mem_singleton.mp z,n] at e
 cases e
theorem Yz (n : Nat) : wp 0 n 1 = (List.range n).map fun i : Nat => (i : Int):=by
 unfold wp
 have : (Builtin.Range.rangeSize 0 n 1).toNat = n:=by
  unfold Builtin.Range.rangeSize
  simp
  split <;> k_extra "o"
 rw [this]
 refine List.map_congr_left fun i _ => ?_
 k_extra "o"
theorem zb.nat {n : Nat} (hs : Builtin.Range.small 0 n 1 = true) : zb (.rng 0 n 1) ((List.range n).map fun i : Nat => D.int (i : Int)):=by
 have:=zb.rng hs
 rw [Yz,List.map_map] at this
 exact this
end
noncomputable def VT (n k : Nat) : Bool:=Builtin.bitAnd ((n : Int).fdiv (2 ^ k)) 1 != 0
noncomputable def zk (p : Nat) : List Str:=(xR.drop p).take 4
noncomputable abbrev vS (l : List Int) : Str × RV:=(Str.ofString "sums",.dat (.list (l.map .int)))
noncomputable abbrev vR (l : List Int) : Str × RV:=(Str.ofString "read",.dat (.list (l.map .int)))
noncomputable abbrev vO (b : Array UInt8) : Str × RV:=(Str.ofString "octets",.dat (.bytes b))
noncomputable abbrev vP (p : Nat) : Str × RV:=(Str.ofString "place",.dat (.int p))
noncomputable abbrev vW (p : Nat) : Str × RV:=(Str.ofString "words",.dat (.list ((zk p).map .str)))
noncomputable abbrev vD (l : List Nat) : Str × RV:=(Str.ofString "drawn",.dat (.list (l.map fun d : Nat => .int d)))
noncomputable def J6 : Str:=Str.ofString "0x0"
noncomputable def zv : Str:=Str.ofString " "
noncomputable def xq : Str:=Str.ofString ","
noncomputable def xE : Str:=Str.ofString "..."
noncomputable def Wh (p n : Nat) : List Str:=((List.range 4).filter (VT n)).map fun k => (zk p).getD k eS
noncomputable def XZ (p n : Nat) : List Str:=if (Wh p n).isEmpty then [J6] else Wh p n
noncomputable def k8 (p n : Nat) : Str:=wW vX (XZ p n)
noncomputable def zG (p n : Nat) : Str:=zv ++ k8 p n ++ xq
noncomputable def zM (p : Nat) : List Str:=(List.range 16).map (zG p)
noncomputable abbrev vT (p : Nat) : Str × RV:=(Str.ofString "texts",.dat (.list ((zM p).map .str)))
noncomputable def J3 (p : Nat) : Bool:=decide (zl xR (some (p : Int)) (some ((p : Int) + 4)) none = zk p) && decide ((zk p).length = 4) && (List.range 16).all fun n =>
 decide (vL 32 0 ((n : Int) * 2 ^ p) [] = some (XZ p n)) && yc vX (XZ p n) && decide ((k8 p n).length ≤ 100) && PyData.strOk (zG p n)
theorem W5 : ∀ p : Fin 10,J3 p = true:=by decide +kernel
structure w9 (p : Nat) : Prop where
 lt : p < 10
 words : zl xR (some (p : Int)) (some ((p : Int) + 4)) none = zk p
 len : (zk p).length = 4
 fl : ∀ n : Nat,n < 16 → vL 32 0 ((n : Int) * 2 ^ p) [] = some (XZ p n)
 jf : ∀ n : Nat,n < 16 → yc vX (XZ p n) = true
 short : ∀ n : Nat,n < 16 → (k8 p n).length ≤ 100
 ok : ∀ n : Nat,n < 16 → PyData.strOk (zG p n) = true
theorem zAX {p : Nat} (hp : p < 10) : w9 p:=by
 have h:=W5 ⟨p,hp⟩
 simp only [J3,Bool.and_eq_true,decide_eq_true_eq,List.all_eq_true,List.mem_range] at h
 obtain ⟨⟨h1,h2⟩,h3⟩:=h
 exact ⟨hp,h1,h2,fun n hn => (h3 n hn).1.1.1,fun n hn => (h3 n hn).1.1.2,fun n hn => (h3 n hn).1.2,fun n hn => (h3 n hn).2⟩
section
variable {prog : Program} {w : World} {A : Around} {B : Heap} {s₀ s : Shared} {Own₀ M₀ Own M : Addr → Prop} {names : zJ} {env : Env} {ρ : List (Str × RV)} {μ : List (Addr × D)} {h : Heap} {Q : Flow → Shared → Prop} {E : Value → Shared → Prop} {rest : List Stmt} {mg mb : Str → Option Value} {mN : Str → Option Value} {C N : Addr}
theorem Kc (H : wC prog w B mg mb C N mN) (R : Rm A 3) (hL : env.frame = some env.locals) (hfr : A.frames = some [env]) {oc : Array UInt8} {sums : List Int} {p : Nat} {t4 : Int} (hsz : oc.size ≤ 1000) (hrd : vm oc = sums) (h4 : sums[4]? = some t4) (hp : t4.fmod 10 = (p : Int))
  (S : St prog w B s₀ Own₀ M₀ zL env Own M [vO oc,vS sums] μ s)
  (hQ : ∀ s',St prog w B s₀ Own₀ M₀ zL env Own M [vP p,vR sums,vO oc,vS sums] μ s' → wpAny (model prog w) A (execs ((zC zt).drop 5) env) Q E s') :
  wpAny (model prog w) A (execs ((zC zt).drop 3) env) Q E s:=by
 have R0 : Rm A 0:=R.le (Nat.zero_le _)
 show wpAny _ _ (execs (_ :: _ :: (zC zt).drop 5) env) _ _ _
 refine' wU rfl ?a1 (WZ H R S hL hfr hsz ?a2 ?a3 (fun _ => rfl) fun v s' S' rv => ⟨_,_,_,_,.dat _,S',rv, ?a4⟩)
 case a1 | a2 => k_extra "kd"
 case a3 => k_extra "z"
 case a4 =>
  k_extra "next"
  rw [hrd] at S
  refine' yK (d:=.int p) S ?c1 ?c2 rfl ?c3
  case c2 => k_extra "kd"
  case c3 => exact fun s' S' => hQ s' (S'.sub (by k_extra "sub"))
  case c1 =>
   refine' Ev.cast (Ev.bin (da:=.int t4) (db:=.int 10) S.e (Ev.rd (Ev.item (xs:=sums.map .int) (i:=4) ?d1 ?d2 (by decide) (by decide) ?d3)) ?d4 (yL.mod _ _ (by decide) (PyProof.noPylong_of_log2 (by decide +kernel)))) ?d5
   case d1 | d2 => k_extra "z"
   case d3 => show (sums.map D.int)[4]? = _; rw [List.getElem?_map,h4]; rfl
   case d4 => k_extra "z"
   case d5 => rw [hp]
theorem Ye (ws : List Int) : We (.list (ws.map .int)) (.list (ws.map .int)) = true:=yt (xZ ws)
theorem V4 (ws : List Str) (h : ∀ x ∈ ws,PyData.strOk x = true) : w8 8 (.list (ws.map .str)) = true:=by
 rw [xz,List.all_eq_true]
 intro d hd
 obtain ⟨i,hi,rfl⟩:=List.mem_map.mp hd
 exact h i hi
end
noncomputable def qZ (n : Nat) : Int:=((List.range 4).map fun k => Builtin.bitAnd ((n : Int).fdiv (2 ^ k)) 1).sum
noncomputable def yh : List Int:=(List.range 16).map qZ
noncomputable def xc (n : Nat) : Str:=Vs (n : Int)
noncomputable def wz : List Str:=(List.range 16).map xc
noncomputable abbrev vN : Str × RV:=(Str.ofString "names",.dat (.list (wz.map .str)))
noncomputable abbrev vZ : Str × RV:=(Str.ofString "sizes",.dat (.list (yh.map .int)))
noncomputable def ZJ (d : D) : D:=match d with
 | .int i => .int (yh.getD i.toNat 0)
 | _ => .none
noncomputable def ltS (n : Nat) (d : D) : Bool:=match d with
 | .int b => decide (qZ n < b)
 | _ => false
noncomputable def ka (i : Nat) : List D:=(List.range i).foldl (fun xs n => qK (fun d => !ltS n (ZJ d)) xs (.int n)) []
noncomputable def Qq (d : D) : Bool:=match d with
 | .int i => decide (0 ≤ i) && decide (i < 16)
 | _ => false
noncomputable def yz : List Nat:=[0,1,2,4,8,3,5,6,9,10,12,7,11,13,14,15]
theorem Qw : ∀ i : Fin 17,((ka i).all Qq && decide ((ka i).length ≤ 16)) = true:=by decide +kernel
theorem Qf : ka 16 = yz.map fun n : Nat => D.int n:=by kernel_rfl
theorem Xr (i : Nat) : ka (i + 1) = qK (fun d => !ltS i (ZJ d)) (ka i) (.int i):=by
 unfold ka; rw [List.range_succ,List.foldl_append]; rfl
theorem Y8 {d : D} (h : Qq d = true) : ∃ n : Nat,n < 16 ∧ d = .int n:=by
 cases d with
 | int i =>
  simp only [Qq,Bool.and_eq_true,decide_eq_true_eq] at h
  exact ⟨i.toNat,by k_extra "o",by congr 1; k_extra "o"⟩
 | _ => cases h
theorem W7 : ∀ n : Fin 16,(yc eS (jZ (n : Int) 4).1 && !Builtin.Str.tooLong (yY (wW eS (jZ (n : Int) 4).1)).cps.size) = true:=by decide +kernel
theorem XD {n : Nat} (h : n < 16) : (yh.map D.int)[n]? = some (.int (yh.getD n 0)):=by
 have hl : yh.length = 16:=by unfold yh; rw [List.length_map,List.length_range]
 rw [List.getElem?_map,List.getD_eq_getElem?_getD,List.getElem?_eq_getElem (by k_extra "o")]
 rfl
noncomputable abbrev zAt : List Pos:=[⟨260,39,260,61⟩,⟨265,79,265,101⟩,⟨269,41,269,80⟩,⟨288,35,288,59⟩]
noncomputable abbrev xY (env : Env) : List (Pos × Str):=zAt.map fun p => (p,env.qual ++ "<lambda>")
theorem Yx (env : Env) : wb (xY env) = true:=by
 simp only [wb,xY,List.all_map,List.all_eq_true,Function.comp_def]
 intro p hp q hq
 rw [beq_self_eq_true,Bool.or_true]
section
variable {prog : Program} {w : World} {A : Around} {B : Heap} {s₀ s : Shared} {Own₀ M₀ Own M : Addr → Prop} {names : zJ} {env : Env} {ρ : List (Str × RV)} {μ : List (Addr × D)} {h : Heap} {Q : Flow → Shared → Prop} {E : Value → Shared → Prop} {rest : List Stmt} {mg mb : Str → Option Value} {mN : Str → Option Value} {C N : Addr}
theorem K7 (H : wC prog w B mg mb C N mN) (R : Rm A 3) {p : Nat} {dr : List Nat}
  (S : St prog w B s₀ Own₀ M₀ zL env Own M [vT p,vW p,vD dr] μ s)
  (hQ : ∀ s',St prog w B s₀ Own₀ M₀ zL env Own M [vN,vZ,vT p,vW p,vD dr] μ s' → wpAny (model prog w) A (execs ((zC zt).drop 12) env) Q E s') :
  wpAny (model prog w) A (execs ((zC zt).drop 10) env) Q E s:=by
 have R0 : Rm A 0:=R.le (Nat.zero_le _)
 have G:=H.run.hdr.G
 have hr:=H.run.range
 show wpAny _ _ (execs (_ :: _ :: (zC zt).drop 12) env) _ _ _
 refine' yr S ?c1 R0 ?c2 (dsrc:=.rng 0 (16 : Nat) 1) ?c3 (List.range 16) (fun n : Nat => .int n) (zb.nat (by decide)) (fun n => .int (qZ n)) ?c4 ?c5 ?c6 ?c7 ?c8
 case c1 | c2 => k_extra "kd"
 case c3 => k_extra "z"
 case c4 => k_extra "kd"
 case c5 => rw [List.length_range,sizeLine_eq]; decide
 case c6 => k_extra "fs"
 case c7 =>
  intro n hn env' h' M' kx hE
  have hn:=List.mem_range.mp hn
  refine' Ev.cast (Ev.call hE (R.le (by decide : 1 ≤ 3)) ?zfs1 ?zKs1 (xJ.cons ?zxs1 xJ.nil (fun _ => rfl)) (zH.sum (k:=0) ((List.range 4).map fun k => .int (Builtin.bitAnd ((n : Int).fdiv (2 ^ k)) 1)) ?zys1)) ?zqs1
  case zfs1 => exact Ev.glob G hE (by k_extra "kd") (.inr H.sum) (by decide)
  case zKs1 => k_extra "z"
  case zys1 => simp [List.all_eq_true,Y3]
  case zqs1 => rw [List.map_map]; rfl
  case zxs1 =>
   refine' Ev.rd (Ev.comp1 hE R0 ?y1 (dsrc:=.rng 0 (4 : Nat) 1) ?y2 (List.range 4) (fun n : Nat => .int n) (zb.nat (by decide)) (fun k => .int (Builtin.bitAnd ((n : Int).fdiv (2 ^ k)) 1)) ?y3 ?y4 ?y5 ?y6)
   case y1 => k_extra "kd"
   case y2 => k_extra "z"
   case y3 => k_extra "kd"
   case y4 => rw [List.length_range,sizeLine_eq]; decide
   case y5 => k_extra "fs"
   case y6 =>
    clear hE
    intro k hk env'' h'' M'' kx' hE
    refine' Ev.bin (da:=.int ((n : Int).fdiv (2 ^ k))) (db:=.int 1) hE (Ev.rd (Ev.bin (da:=.int n) (db:=.int k) hE ?u1 ?u2 (yL.shr _ _ ?u3))) ?u4 (yL.and _ _)
    case u1 | u2 => k_extra "z"
    case u3 => k_extra "o"
    case u4 => k_extra "z"
 case c8 =>
  k_extra "next"
  have e1 : (List.range 16).map (fun n => D.int (qZ n)) = yh.map .int:=by unfold yh; rw [List.map_map]; rfl
  rw [e1] at S
  obtain ⟨nf,nfd,HN,hbn⟩:=H.name
  refine' yr S ?d1 R0 ?d2 (dsrc:=.rng 0 (16 : Nat) 1) ?d3 (List.range 16) (fun n : Nat => .int n) (zb.nat (by decide)) (fun n => .str (xc n)) ?d4 ?d5 ?d6 ?d7 ?d8
  case d1 | d2 => k_extra "kd"
  case d3 => k_extra "z"
  case d4 => k_extra "kd"
  case d5 => rw [List.length_range,sizeLine_eq]; decide
  case d6 => k_extra "fs"
  case d7 =>
   intro n hn env' h' M' kx hE
   have hn:=List.mem_range.mp hn
   have hf:=W7 ⟨n,hn⟩
   simp only [Bool.and_eq_true,Bool.not_eq_true'] at hf
   refine' Ev.call hE (R.le (by decide : 1 ≤ 3)) ?f12 HN.keepy (xJ.cons ?x12 .nil fun _ => rfl) (zH.of_def G HN [Str.ofString "number"] (ds:=[.int n]) (fun vs hl s => ?_) rfl (by simp) (by k_extra "kd") rfl (W2 G hr _ hf.1 hf.2))
   case f12 | x12 => k_extra "z"
   obtain ⟨a,rfl⟩:=QK hl
   exact hbn a s
  case d8 =>
   intro s' S'
   refine hQ s' (S'.sub ?_)
   have e2 : (List.range 16).map (fun n => D.str (xc n)) = wz.map .str:=by unfold wz; rw [List.map_map]; rfl
   rw [e2]
   k_extra "sub"
theorem Kw (H : wC prog w B mg mb C N mN) (R : Rm A 4) {p : Nat} {dr : List Nat} {P Pr : Addr} (T : Tb B mg env P (xY env)) (hOP : Own P) (hP0 : Own₀ P)
  (S : St prog w B s₀ Own₀ M₀ zL env Own M [vN,vZ,vT p,vW p,vD dr] [(P,.obs P (tabObj #[]) []),(Pr,.obs Pr (tabObj #[]) [])] s)
  (hQ : ∀ Ls Lb Le Own' M' ps os s',Own' P → Own' Ls → Own' Lb → Own' Le → yN (xY env) ps os →
   St prog w B s₀ Own₀ M₀ zL env Own' M' [(Str.ofString "laid",.dat (.list (yz.map fun n : Nat => .int n))),(Str.ofString "early",.adr Le),(Str.ofString "bag",.adr Lb),(Str.ofString "shelf",.adr Ls),vN,vZ,vT p,vW p,vD dr] [(Le,.list []),(Lb,.list []),(Ls,.list []),(P,.obs P (tabObj ps) os),(Pr,.obs Pr (tabObj #[]) [])] s' →
   wpAny (model prog w) A (execs ((zC zt).drop 14) env) Q E s') :
  wpAny (model prog w) A (execs ((zC zt).drop 12) env) Q E s:=by
 have R0 : Rm A 0:=R.le (Nat.zero_le _)
 have G:=H.run.hdr.G
 have hr:=H.run.range
 have hmore:=S.more
 have hown:=S.own
 have hown0:=S.own₀
 show wpAny _ _ (execs (_ :: _ :: (zC zt).drop 14) env) _ _ _
 refine' jJ (els:=[.new (.list []),.new (.list []),.new (.list []),.new (.list [])]) S R0 [(Str.ofString "laid",_),(Str.ofString "shelf",_),(Str.ofString "bag",_),(Str.ofString "early",_)] rfl ?tx (by decide) (by k_extra "kd") rfl (by simp) (vJ _ (by rfl)) ?tk
 case tx => k_extra "z"
 clear S
 intro La hLa Ls hLs Lb hLb Le hLe s' S
 k_extra "flat"
 have n1 : ¬ M₀ La:=fun z => hLa (hmore _ z)
 have nP : La ≠ P:=fun z => hLa (z ▸ hown P hOP)
 have n2 : ¬ Own₀ La:=fun z => hLa (hown _ (hown0 _ z))
 show wpAny _ _ (execs (_ :: (zC zt).drop 14) env) _ _ _
 refine' xa (α:=Nat) (σ:=List D × Array Value × List (Addr × Obj)) S R0 ?qv (dsrc:=.rng 0 (16 : Nat) 1) (List.range 16) (fun n : Nat => .int n) (zb.nat (by decide)) (fun n => [(Str.ofString "number",.dat (.int n))]) ?asg ?fs
  (fun _ => [(Str.ofString "early",.adr Le),(Str.ofString "bag",.adr Lb),(Str.ofString "shelf",.adr Ls),(Str.ofString "laid",.adr La),vN,vZ,vT p,vW p,vD dr])
  (fun c => [(Le,.list []),(Lb,.list []),(Ls,.list []),(La,.list c.1),(P,.obs P (tabObj c.2.1) c.2.2),(Pr,.obs Pr (tabObj #[]) [])])
  (fun i c => c.1 = ka i ∧ yN (xY env) c.2.1 c.2.2) (fun _ _ _ => False) ([],#[],[]) ?hp0 ?rho rfl ?off ?turn ?done ?exit
 case qv => k_extra "z"
 case asg => exact fun y _ => wD.name (by k_extra "kd")
 case fs => k_extra "fs"
 case hp0 => exact ⟨rfl,yN.nil _⟩
 case rho => k_extra "sub"
 case off => intro c y; k_extra "kd"
 case exit => exact fun f c s' h _ => h.elim
 case turn =>
  clear S
  intro i y c M' s₁ hy hP' hMM S
  obtain ⟨xs,pst,ost⟩:=c
  obtain ⟨hK,hTb⟩:=hP'
  dsimp only at hK hTb S
  have hyi : y = i ∧ i < 16:=by
   obtain ⟨h1,h2⟩:=List.getElem?_eq_some_iff.mp hy
   rw [List.length_range] at h1
   rw [List.getElem_range] at h2
   exact ⟨h2.symm,h1⟩
  obtain ⟨rfl,hi⟩:=hyi
  have hok:=Qw ⟨y,by k_extra "o"⟩
  simp only [Bool.and_eq_true,List.all_eq_true,decide_eq_true_eq,← hK] at hok
  have hnext:=Xr y
  rw [← hK] at hnext
  show wpAny _ _ (execs (_ :: []) _) _ _ _
  refine' qF (k:=0) (P:=P) (L:=La) (ps:=pst) (os:=ost) (xs:=xs) (ys:=(List.range 16).map fun n : Nat => .int n) (xd:=.int y) (pre:=[(Le,.list []),(Lb,.list []),(Ls,.list [])]) (mid:=[]) (post:=[(Pr,.obs Pr (tabObj #[]) [])]) (step:=ZJ) (px:=Str.ofString "one")
   H.run.bis T S rfl ?i1 ?i2 hTb (R.le (by decide)) (ltS y) ?i3 ?i4 ?i5 ?i0 (fun _ => rfl) ?i6 rfl ?i7 ?i8 ?i9 (fun fd c' cl F => ?i10) ?i11 ?i12 ?i13 ?i14 ?i15 rfl ?i16
  case i0 => k_extra "z"
  case i1 => exact .inl (.inl (.inl (.inl hOP)))
  case i2 => k_extra "z"
  case i3 => k_extra "mem"
  case i4 | i5 => k_extra "kd"
  case i6 => exact .head _
  case i7 | i8 | i9 => k_extra "kd"
  case i10 =>
   refine fun v s => wY F ?_ v s
   intro fd v e1 e2 e3
   obtain ⟨f1,f2,f3,f4,f5,f6,f7,f8,f9,f10,f11,f12,f13,f14,f15⟩:=fd
   dsimp only at e1 e2 e3
   subst e1 e2 e3
   rfl
  case i11 =>
   intro d hd A2 env2 h2 M2 B2 X2 R2 hE
   obtain ⟨z,hz,rfl⟩:=List.mem_map.mp hd
   have hz:=List.mem_range.mp hz
   refine' Ev.item (xs:=yh.map .int) (i:=(z : Int)) ?v1 ?v2 (by k_extra "o") (by k_extra "o") ?v3
   case v1 | v2 => k_extra "z"
   case v3 => exact XD hz
  case i12 =>
   intro d hd
   obtain ⟨n,hn,rfl⟩:=Y8 (hok.1 d hd)
   exact List.mem_map.mpr ⟨n,List.mem_range.mpr hn,rfl⟩
  case i13 => exact List.mem_map.mpr ⟨y,List.mem_range.mpr hi,rfl⟩
  case i14 => k_extra "o"
  case i15 =>
   intro d hd
   obtain ⟨n,hn,rfl⟩:=Y8 (hok.1 d hd)
   have e : yh.getD y 0 = qZ y:=by
    unfold yh
    rw [List.getD_eq_getElem?_getD,List.getElem?_map,List.getElem?_range hi]; rfl
   show zN prog w .Lt (.int (yh.getD y 0)) (.int _) (decide (qZ y < _))
   rw [e]
   exact zN.lt _ _
  case i16 =>
   intro ps2 os2 s2 hT2 S2
   refine zD ⟨(qK (fun d => !ltS y (ZJ d)) xs (.int y),ps2,os2),_,_,S2.sub ?q1,hnext.symm,hT2⟩
   case q1 => exact fun _ _ hm => .tail _ hm
 case done =>
  clear S
  intro c s' hP' S
  obtain ⟨xs,pst,ost⟩:=c
  obtain ⟨hK,hTb⟩:=hP'
  dsimp only at hK hTb S
  rw [List.length_range,Qf] at hK
  subst hK
  refine zD ?_
  have S2:=S.freezeAt (Own:=fun b => ((((Own b ∨ b = La) ∨ b = Ls) ∨ b = Lb) ∨ b = Le) ∧ b ≠ La) (M:=fun b => ((((M b ∨ b = La) ∨ b = Ls) ∨ b = Lb) ∨ b = Le) ∧ b ≠ La) (a:=La) (x:=Str.ofString "laid") (pre:=[(Le,.list []),(Lb,.list []),(Ls,.list [])]) (post:=[(P,.obs P (tabObj pst) ost),(Pr,.obs Pr (tabObj #[]) [])])
   jM (fun _ => Iff.rfl) (fun _ => Iff.rfl) n2 n1
  refine hQ Ls Lb Le _ _ pst ost s' ⟨.inl (.inl (.inl (.inl hOP))),fun e => nP e.symm⟩ ⟨.inl (.inl (.inr rfl)),S.ne_of 2 3 rfl rfl (by decide)⟩ ⟨.inl (.inr rfl),S.ne_of 1 3 rfl rfl (by decide)⟩ ⟨.inr rfl,S.ne_of 0 3 rfl rfl (by decide)⟩ hTb (S2.sub ?g4)
  case g4 => k_extra "sub"
end
noncomputable def VA (p n : Nat) : Str × Str:=(xc n,zG p n)
noncomputable def zU (p : Nat) : List (Str × Str):=yz.map (VA p)
theorem VV : ∀ n : Fin 16,(yy yV (xc n) && decide ((xc n).cps.size < 2 ^ 63)) = true:=by decide +kernel
theorem Wo : ∀ p : Fin 10,∀ n : Fin 16,(yy xf (zG p n) && decide ((zG p n).cps.size < 2 ^ 63) && yc X6 [zG p n]) = true:=by decide +kernel
theorem qT : ∀ n ∈ yz,n < 16:=by decide
section
variable {prog : Program} {w : World} {A : Around} {B : Heap} {s₀ s : Shared} {Own₀ M₀ Own M : Addr → Prop} {names : zJ} {env : Env} {ρ : List (Str × RV)} {μ : List (Addr × D)} {h : Heap} {Q : Flow → Shared → Prop} {E : Value → Shared → Prop} {rest : List Stmt} {mg mb : Str → Option Value} {mN : Str → Option Value} {C N : Addr}
theorem Rm.typecall {C : Addr} {vs : List Value} (r : Rm A 3) : Rm (A.under (.builtin "type.__call__" ⟨.ref C :: vs,[]⟩)) 2:=by
 have hw : (Code.builtin "type.__call__" ⟨.ref C :: vs,[]⟩).weight = 1:=rfl
 have hu : (Code.builtin "type.__call__" ⟨.ref C :: vs,[]⟩).cUnits = 1:=rfl
 exact r.under ⟨rfl,by show A.depth + _ ≤ _; k_extra "o",by show A.units + _ ≤ _; k_extra "o"⟩
theorem wm {l : List Str} {n : Nat} (h : n < l.length) : (l.map D.str)[((n : Nat) : Int).toNat]? = some (.str (l.getD n eS)):=by
 rw [Int.toNat_natCast,List.getElem?_map,List.getD_eq_getElem?_getD,List.getElem?_eq_getElem h]
 rfl
theorem wn {f : Nat → Str} {n m : Nat} {x : Str} (h : n < m) : ((List.range m).map f).getD n x = f n:=by
 rw [List.getD_eq_getElem?_getD,List.getElem?_map,List.getElem?_range h]; rfl
theorem jK.items (H : qX B mg mb C N mN) {bk : D} {Ls : Addr} {rows : List D} {o : Expr} {apos pos : Pos} (S : En prog w B names env h M ρ μ) (R : Rm A 1) (ho : Ev prog w A h o env (PS prog w M bk)) (hI : qY prog w bk C Ls) (hm : (Ls,.list rows) ∈ μ) (hz : rows.length ≤ 1000) {pl : Sem Bool}
  (he : eval (.Call (.Attribute o (Str.ofString "items") apos) [] [] pos) env = (do
   let ov ← eval o env
   standAt apos.atName
   let (f,first) ← holding [ov] (getMethod ov (Str.ofString "items") pl)
   callWith pos f first (backTo pos (starEach [] env)) (backToKw pos (keywordEach [] env)))) :
  jK prog w A h (.Call (.Attribute o (Str.ofString "items") apos) [] [] pos) env M (.list rows):=by
 intro s E Q k hQ
 obtain ⟨gf,gfd,g1,g2,g3⟩:=H.items
 have S':=S.ext k
 refine kh (rs:=[]) S' (ho.ext k) hI H.cls g1 g2 H.nga H.nge V8 (if_neg (by decide)) .nil (fun x vs s' ks rx rvs => ?_) he
 cases rvs
 exact Xg H g2 g3 R (S'.base.trans (ke ks)) (S'.ext (ke ks)).old hI rx ((S'.ext (ke ks)).mem Ls _ hm) hz fun b s'' ks' hn c => hQ b s'' (zA ks ks') (yj ks hn) c
theorem KR (H : wC prog w B mg mb C N mN) (R : Rm A 4) {p : Nat} {dr : List Nat} {P Pr Ls Lb Le : Addr} {ps : Array Value} {os : List (Addr × Obj)} (Fp : w9 p) (hLs : Own Ls)
  (S : St prog w B s₀ Own₀ M₀ zL env Own M [(Str.ofString "laid",.dat (.list (yz.map fun n : Nat => .int n))),(Str.ofString "early",.adr Le),(Str.ofString "bag",.adr Lb),(Str.ofString "shelf",.adr Ls),vN,vZ,vT p,vW p,vD dr] [(Le,.list []),(Lb,.list []),(Ls,.list []),(P,.obs P (tabObj ps) os),(Pr,.obs Pr (tabObj #[]) [])] s)
  (hQ : ∀ bk s',qY prog w bk C Ls →
   St prog w B s₀ Own₀ M₀ zL env Own M [(Str.ofString "book",.dat bk),(Str.ofString "early",.adr Le),(Str.ofString "bag",.adr Lb),(Str.ofString "shelf",.adr Ls),vN,vZ,vT p,vW p,vD dr] [(Le,.list []),(Lb,.list []),(Ls,za (zU p)),(P,.obs P (tabObj ps) os),(Pr,.obs Pr (tabObj #[]) [])] s' →
   wpAny (model prog w) A (execs ((zC zt).drop 17) env) Q E s') :
  wpAny (model prog w) A (execs ((zC zt).drop 14) env) Q E s:=by
 have R0 : Rm A 0:=R.le (Nat.zero_le _)
 have G:=H.run.hdr.G
 show wpAny _ _ (execs (_ :: _ :: _ :: (zC zt).drop 17) env) _ _ _
 refine' wU rfl ?a1 (Qk S.e H.run.hdr.cls (Ev.glob G S.e ?a2 (.inl H.hdrs) (by decide)) (.cons (r:=.adr Ls) ?a3 .nil fun _ => rfl) fun vs s₁ k₁ rs => ?a4)
 case a1 | a2 => k_extra "kd"
 case a3 =>
  refine' Ev.var S.e ?h1 ?h2
  case h1 => k_extra "mem"
  case h2 => k_extra "kd"
 case a4 =>
  refine zP.use1 rs fun v1 r1 => ?_
  have r1 : v1 = .ref Ls:=r1
  subst r1
  have S₁:=S.step k₁
  refine Qo H.run.hdr (M₁:=M) (fun c => Rm.typecall (R.le (by decide))) S₁.e.base S₁.e.old (S₁.e.mem Ls _ xA) fun x bk s' ks hI rx => ⟨Own,M,_,_,.dat bk,S₁.step ks,rx, ?_⟩
  clear S S₁
  intro s' S
  refine' xa (α:=Nat) (σ:=List (Str × Str)) S R0 ?qv (dsrc:=.list (yz.map fun n : Nat => .int n)) yz (fun n : Nat => .int n) (zb.list _) (fun n => [(Str.ofString "number",.dat (.int n))]) ?asg ?fs
   (fun _ => [(Str.ofString "book",.dat bk),(Str.ofString "early",.adr Le),(Str.ofString "bag",.adr Lb),(Str.ofString "shelf",.adr Ls),vN,vZ,vT p,vW p,vD dr])
   (fun c => [(Le,.list []),(Lb,.list []),(Ls,za c),(P,.obs P (tabObj ps) os),(Pr,.obs Pr (tabObj #[]) [])])
   (fun i c => c = (yz.take i).map (VA p)) (fun _ _ _ => False) [] ?hp0 ?rho rfl ?off ?turn ?done ?exit
  case qv => k_extra "z"
  case asg => exact fun y _ => wD.name (by k_extra "kd")
  case fs => k_extra "fs"
  case hp0 => rfl
  case rho => k_extra "sub"
  case off => intro c y; k_extra "kd"
  case exit => exact fun f c s' h _ => h.elim
  case turn =>
   clear S
   intro i y c M' s₁ hy hP' hMM S
   have hyl : y < 16:=qT y (List.mem_of_getElem? hy)
   have hnext : (yz.take (i + 1)).map (VA p) = c ++ [VA p y]:=by
    rw [List.take_add_one,hy,hP']; simp
   have hcl : c.length ≤ 16:=by
    rw [hP',List.length_map,List.length_take,show yz.length = 16 from rfl]; k_extra "o"
   have f1:=VV ⟨y,hyl⟩
   have f2:=Wo ⟨p,Fp.lt⟩ ⟨y,hyl⟩
   simp only [Bool.and_eq_true,decide_eq_true_eq] at f1 f2
   obtain ⟨gf,gfd,g1,g2,g3⟩:=H.run.hdr.addh
   show wpAny _ _ (execs (_ :: []) _) _ _ _
   refine' xk S.e.n (kh (rs:=[.dat (.str (xc y)),.dat (.str (zG p y))]) S.e ?qo hI H.run.hdr.cls g1 g2 H.run.hdr.nga H.run.hdr.nge JW (if_neg (by decide)) (.cons (r:=.dat (.str (xc y))) ?e1 (.cons (r:=.dat (.str (zG p y))) ?e2 .nil fun _ => rfl) fun _ => rfl) (fun x vs s₂ ks rx rvs => ?hq) rfl) rfl
   case qo => k_extra "z"
   case e1 =>
    refine' Ev.item (xs:=wz.map .str) (i:=(y : Int)) ?v1 ?v2 (by k_extra "o") (by k_extra "o") ?v3
    case v1 | v2 => k_extra "z"
    case v3 => rw [wm (by unfold wz; rw [List.length_map,List.length_range]; exact hyl)]; unfold wz; rw [wn hyl]
   case e2 =>
    refine' Ev.item (xs:=(zM p).map .str) (i:=(y : Int)) ?v1 ?v2 (by k_extra "o") (by k_extra "o") ?v3
    case v1 | v2 => k_extra "z"
    case v3 => rw [wm (by unfold zM; rw [List.length_map,List.length_range]; exact hyl)]; unfold zM; rw [wn hyl]
   case hq =>
    refine zP.use2 rvs fun w1 w2 q1 q2 => ?_
    have S₂:=S.step ks
    refine Wx H.run.hdr g2 g3 (M₁:=M') (rows:=c.map YL) (nm:=xc y) (tx:=zG p y) (R.le (by decide)) S₂.e.base S₂.e.old hI rx q1 q2 (S₂.own Ls hLs) (S₂.base Ls hLs) (S₂.e.mem Ls _ xA) (by rw [List.length_map]; k_extra "o") H.run.sys f1.1 f1.2 f2.1.1 f2.1.2 f2.2 fun s₃ ef c3 => ?_
    obtain ⟨h3,tk3,rfl,kk3⟩:=ef
    have S₃:=S₂.effect1 (pre:=[(Le,.list []),(Lb,.list [])]) (h':=h3) (tk:=tk3) rfl hLs (fun b o n e => kk3 b o (by simpa using n) e) c3
    refine zD ⟨c ++ [VA p y],Own,M', ?_,hnext.symm⟩
    have e : za (c ++ [VA p y]) = .list (c.map YL ++ [.tup [.str (xc y),.str (zG p y)]]):=by unfold za; rw [List.map_append]; rfl
    rw [← e] at S₃
    exact S₃.sub fun _ _ hm => .tail _ hm
  case done =>
   clear S
   intro c s' hP' S
   rw [List.take_length] at hP'
   subst hP'
   refine zD ?_
   show wpAny _ _ (execs (_ :: (zC zt).drop 17) _) _ _ _
   refine' Wl (T := "list") (ds:=[]) S R0 (jK.items H.run.hdr S.e (R.le (by decide)) ?qo hI xA ?qz rfl) rfl F.plainAttrs_list F.slot_list_clear F.type_list_clear (fun a => .nil) rfl (by decide) rfl (xI.clear _ ?z2) rfl fun s' S' => hQ bk s' hI S'
   case qo => k_extra "z"
   case qz => rw [List.length_map,List.length_map,show yz.length = 16 from rfl]; k_extra "o"
   case z2 => rw [List.length_map,List.length_map,show yz.length = 16 from rfl,sizeLine_eq]; k_extra "o"
end
theorem QE : qM 16 (fun i j => decide (qZ i < qZ j)) (kas_sort 16) = some yz.toArray:=by decide +kernel
theorem V5 : ∀ p : Fin 10,((zU p).all fun y => PyData.strOk y.1 && PyData.strOk y.2) = true:=by decide +kernel
theorem ZM (p : Nat) : (zU p).length = 16:=by unfold zU; rw [List.length_map]; rfl
section
variable {prog : Program} {w : World} {A : Around} {B : Heap} {s₀ s : Shared} {Own₀ M₀ Own M : Addr → Prop} {names : zJ} {env : Env} {ρ : List (Str × RV)} {μ : List (Addr × D)} {h : Heap} {Q : Flow → Shared → Prop} {E : Value → Shared → Prop} {rest : List Stmt} {mg mb : Str → Option Value} {mN : Str → Option Value} {C N : Addr}
theorem Vr {p : Nat} (hp : p < 10) : w8 8 (za (zU p)) = true:=by
 have h:=V5 ⟨p,hp⟩
 rw [List.all_eq_true] at h
 rw [xz,List.all_eq_true]
 intro d hd
 obtain ⟨y,hy,rfl⟩:=List.mem_map.mp hd
 have:=h y hy
 rw [Bool.and_eq_true] at this
 simp [YL,w8,okS,this.1,this.2]
theorem Wu {p : Nat} (hp : p < 10) : w8 8 (.list ((zU p).map fun y => .str y.1)) = true:=by
 have h:=V5 ⟨p,hp⟩
 rw [List.all_eq_true] at h
 rw [xz,List.all_eq_true]
 intro d hd
 obtain ⟨y,hy,rfl⟩:=List.mem_map.mp hd
 have:=h y hy
 rw [Bool.and_eq_true] at this
 exact this.1
theorem Ke (H : wC prog w B mg mb C N mN) (R : Rm A 4) {p : Nat} {dr : List Nat} {P Pr Ls Lb Le : Addr} {ps : Array Value} {os : List (Addr × Obj)} (Fp : w9 p) (T : Tb B mg env P (xY env)) (hOP : Own P) (hTb : yN (xY env) ps os) {bk : D} (hI : qY prog w bk C Ls)
  (S : St prog w B s₀ Own₀ M₀ zL env Own M [(Str.ofString "book",.dat bk),(Str.ofString "early",.adr Le),(Str.ofString "bag",.adr Lb),(Str.ofString "shelf",.adr Ls),vN,vZ,vT p,vW p,vD dr] [(Le,.list []),(Lb,.list []),(Ls,za (zU p)),(P,.obs P (tabObj ps) os),(Pr,.obs Pr (tabObj #[]) [])] s)
  (hQ : ∀ ps os s',yN (xY env) ps os →
   St prog w B s₀ Own₀ M₀ zL env Own M [(Str.ofString "book",.dat bk),(Str.ofString "early",.adr Le),(Str.ofString "bag",.adr Lb),vT p,vW p,vD dr] [(Le,.list []),(Lb,.list []),(Ls,za (zU p)),(P,.obs P (tabObj ps) os),(Pr,.obs Pr (tabObj #[]) [])] s' →
   wpAny (model prog w) A (execs ((zC zt).drop 19) env) Q E s') :
  wpAny (model prog w) A (execs ((zC zt).drop 17) env) Q E s:=by
 have R0 : Rm A 0:=R.le (Nat.zero_le _)
 have G:=H.run.hdr.G
 have hr:=H.run.range
 have hp10:=Fp.lt
 show wpAny _ _ (execs (_ :: _ :: (zC zt).drop 19) env) _ _ _
 refine' WS (σ:=Array Value × List (Addr × Obj)) (d:=za (zU p)) (Z:=fun s₁ c => yN (xY env) c.1 c.2 ∧ St prog w B s₀ Own₀ M₀ zL env Own M [(Str.ofString "book",.dat bk),(Str.ofString "early",.adr Le),(Str.ofString "bag",.adr Lb),(Str.ofString "shelf",.adr Ls),vN,vZ,vT p,vW p,vD dr] [(Le,.list []),(Lb,.list []),(Ls,za (zU p)),(P,.obs P (tabObj c.1) c.2),(Pr,.obs Pr (tabObj #[]) [])] s₁) S.e.n ?a1 (?a2 : jc ..) (fun s₁ c hz => ⟨_,hz.2,fun s' S' => ?a3⟩)
 case a1 => k_extra "kd"
 case a2 =>
  have e0 : za (zU p) = .list (yz.map fun n : Nat => .tup [.str (xc n),.str (zG p n)]):=by unfold za zU; rw [List.map_map]; rfl
  rw [e0]
  refine' JA (B:=B) (names:=zL) (ρ:=[vN,vT p]) (μ:=fun c => [(P,.obs P (tabObj c.1) c.2)]) (dsrc:=.list (yz.map fun n : Nat => .int n)) S.e.n R0 ?b1 yz (fun n : Nat => .int n) (zb.list _) (fun n => [(Str.ofString "number",.dat (.int n))]) (fun n => .tup [.str (xc n),.str (zG p n)]) ?b2 ?b3 ?b4 ?b5 ?b6 ?b7 ?b8
  case b1 => k_extra "kd"
  case b2 => exact fun y _ => wD.name (by k_extra "kd")
  case b3 => exact fun y _ x r hm => by cases List.mem_singleton.mp hm; decide +kernel
  case b4 => k_extra "fs"
  case b5 => rw [show yz.length = 16 from rfl,sizeLine_eq]; decide
  case b6 => exact fun c c' a d m => by cases List.mem_singleton.mp m; exact ⟨_,.head _⟩
  case b7 =>
   intro E2
   refine' xo (f:=.builtin "sorted") (rs:=[.dat (.rng 0 (16 : Nat) 1)]) S.e (Ev.glob G S.e ?c1 (.inr H.sorted) (by decide)) (.inl fun _ e => by cases e) (.cons (r:=.dat (.rng 0 (16 : Nat) 1)) ?c2 .nil fun _ => rfl) rfl fun vs s₁ k₁ rs => ?c3
   case c1 => k_extra "kd"
   case c2 => k_extra "z"
   case c3 =>
    refine zP.use1 rs fun v1 r1 => ?_
    have S₁:=S.step k₁
    refine' XT T (pre:=[(Le,.list []),(Lb,.list []),(Ls,za (zU p))]) (post:=[(Pr,.obs Pr (tabObj #[]) [])]) S₁ hOP hTb yo rfl ?d1 fun f fo fd c' oc cl ps' os' s₂ hfd F hco hT' K S₂ rf ef => ⟨S₂.e.base, ?d2⟩
    case d1 => k_extra "kd"
    case d2 =>
     obtain ⟨_,hfo,hfm,hcs⟩:=rf.obs_inv
     obtain ⟨hc1,hc2⟩:=hcs (c',oc) (.head _)
     have r1' : Rp prog w s₂.heap M v1 (.rng 0 (16 : Nat) 1):=by
       obtain ⟨h2,tk2,rfl,kk⟩:=ef
       exact Rp.to (fun a o m e => ⟨kk a o (fun z => m (by rw [List.mem_singleton.mp z]; exact S.own P hOP)) e,m⟩) r1
     obtain ⟨r,_,_,_,rfl,_,_⟩:=r1'.rng_inv
     have KO : ya prog w 1 s₂.heap M f ((List.range 16).map fun i : Nat => D.int (i : Int)) (fun _ : Unit => True) (fun _ => []) (fun c d => (c,ZJ d)):=by
       refine' Zz (k:=0) (B₀:=B) F ?f1 G.lim S₂.e.base hfo hfd ?f2 K (wY F ?f3) ?f4 ?f5
       case f1 => k_extra "kd"
       case f2 =>
        obtain ⟨us,t',q1,q2⟩:=hco
        exact ⟨c',oc,us,t',rfl,hc1,q1,q2⟩
       case f3 =>
        intro fd v e1 e2 e3
        obtain ⟨f1,f2,f3,f4,f5,f6,f7,f8,f9,f10,f11,f12,f13,f14,f15⟩:=fd
        dsimp only at e1 e2 e3
        subst e1 e2 e3
        rfl
       case f4 => k_extra "kd"
       case f5 =>
        intro d hd A2 env2 h2 M2 R2 hE
        obtain ⟨z,hz,rfl⟩:=List.mem_map.mp hd
        have hz:=List.mem_range.mp hz
        refine' Ev.item (xs:=yh.map .int) (i:=(z : Int)) ?v1 ?v2 (by k_extra "o") (by k_extra "o") ?v3
        case v1 | v2 => k_extra "z"
        case v3 => exact XD hz
     refine Z5 (k:=1) (Bk:=s₂.heap) (M₁:=M) (step:=ZJ) (key:=qZ) (n:=16) (p:=yz.toArray) (R.le (by decide)) (zR.refl _) S₂.e.old KO (fun i hi => ?_) r1' (by decide) (by decide) (by decide) (by decide) QE (fun i hi => qT i (by simpa using hi)) fun v s₃ k₃ rv => ⟨(ps',os'),⟨hT',S₂.step k₃⟩, ?_, ?_⟩
     · show D.int (yh.getD i 0) = _
       unfold yh
       rw [List.getD_eq_getElem?_getD,List.getElem?_map,List.getElem?_range hi]; rfl
     · have hE3:=(S₂.step k₃).e
       exact ⟨hE3.base,hE3.n,hE3.old,hE3.celled,fun x r hm => hE3.vars x r (by
        simp only [List.mem_cons,List.not_mem_nil,or_false] at hm ⊢
        rcases hm with e | e <;> simp [e]),fun a d hm => hE3.mem a d (by cases List.mem_singleton.mp hm; simp)⟩
     · simpa using rv
  case b8 =>
   intro n hn c env' h' M' hE
   have hn:=qT n hn
   refine' Ev.tuple hE (.cons ?e1 (.cons ?e2 .nil fun _ => rfl) fun _ => rfl) (by show 2 ≤ _; rw [sizeLine_eq]; decide)
   case e1 =>
    refine' Ev.item (xs:=wz.map .str) (i:=(n : Int)) ?v1 ?v2 (by k_extra "o") (by k_extra "o") ?v3
    case v1 | v2 => k_extra "z"
    case v3 => rw [wm (by unfold wz; rw [List.length_map,List.length_range]; exact hn)]; unfold wz; rw [wn hn]
   case e2 =>
    refine' Ev.item (xs:=(zM p).map .str) (i:=(n : Int)) ?v1 ?v2 (by k_extra "o") (by k_extra "o") ?v3
    case v1 | v2 => k_extra "z"
    case v3 => rw [wm (by unfold zM; rw [List.length_map,List.length_range]; exact hn)]; unfold zM; rw [wn hn]
 case a3 =>
  obtain ⟨hT',_⟩:=hz
  clear S hTb
  have S:=S'
  clear S'
  have ho:=Vr hp10
  have ho2:=Wu hp10
  have hl:=ZM p
  refine' vp S ?t1 fun s' S' => hQ c.1 c.2 s' hT' (S'.sub (by k_extra "sub"))
  refine' Tv.cast (Tv.or_cons (a:=false) (b:=false) (Tv.cast (Tv.cmp (da:=za (zU p)) (db:=za (zU p)) R0 ?l1 ?l2 (zN.ne ho ho) rfl) (by rw [yt ho]; rfl)) fun _ =>
   Tv.cast (Tv.or_cons (a:=false) (b:=false) (Tv.cast (Tv.cmp (da:=za (zU p)) (db:=za (zU p)) R0 ?l3 ?l4 (zN.ne ho ho) rfl) (by rw [yt ho]; rfl)) fun _ =>
   Tv.cast (Tv.or_cons (a:=false) (b:=false) (Tv.cast (Tv.cmp (da:=.list ((zU p).map fun y => .str y.1)) (db:=.list ((zU p).map fun y => .str y.1)) R0 ?l5 ?l6 (zN.ne ho2 ho2) rfl) (by rw [yt ho2]; rfl)) fun _ => Tv.or_nil) rfl) rfl) rfl
  case l1 =>
   refine' Ev.rd (jK.ev S.e (jK.items H.run.hdr S.e (R.le (by decide)) ?qo hI xA ?qz rfl))
   case qo => k_extra "z"
   case qz => rw [List.length_map]; k_extra "o"
  case l2 | l3 | l4 => k_extra "z"
  case l5 =>
   obtain ⟨gf,gfd,g1,g2,g3⟩:=H.run.hdr.keys
   refine' Ev.rd (Ev.imeth (rs:=[]) S.e ?qo hI H.run.hdr.cls g1 g2 H.run.hdr.nga H.run.hdr.nge Xw (if_neg (by decide)) .nil ?hcall rfl)
   case qo => k_extra "z"
   case hcall =>
    intro x vs s₂ E2 Q2 X1 old2 X2 rx rvs hq
    cases rvs
    exact Zg H.run.hdr g2 g3 (ys:=zU p) (R.le (by decide)) X2 old2 hI rx ((S.e.mem Ls _ xA).ext X1) (by k_extra "o") hq
  case l6 =>
   refine' Ev.rd (Ev.compM S.e R0 ?m1 (dsrc:=za (zU p)) ?m2 (zU p) YL (zb.list _) (fun y => [(Str.ofString "name",.dat (.str y.1)),(Str.ofString "text",.dat (.str y.2))]) (fun y => .str y.1) ?m3 ?m4 ?m5 ?m6 ?m7)
   case m1 => k_extra "kd"
   case m2 => k_extra "z"
   case m3 => exact fun y _ => wD.tuple [(Str.ofString "name",_),(Str.ofString "text",_)] rfl (by decide) (by k_extra "kd") rfl
   case m4 => exact xu fun _ => by kernel_rfl
   case m5 => rw [hl,sizeLine_eq]; decide
   case m6 => k_extra "fs"
   case m7 =>
    intro y hy env' h' M' kx hE
    k_extra "z"
theorem St.landed (S : St prog w B s₀ Own₀ M₀ names env Own M ρ μ s) (hL : env.frame = some env.locals) {h₁ h5 : Heap} {l₁ : List Env} {tk : Nat} (X1 : zR s.heap h₁) (hl1 : ∀ a ∈ xm l₁,a ∈ xm [env] ∨ s.heap.get? a = none) (XO : Zy l₁ h₁ h5) :
   St prog w B s₀ Own₀ M₀ names env Own M ρ μ { s with heap:=h5,toks:=tk }:=by
 refine S.xout hL ⟨fun a o n e => XO.1 a o (fun z => ?_) (X1 a o e),fun a o e n => XO.2 a o (X1 a o e) n⟩
 rcases hl1 a z with q | q
 · exact n q
 · rw [q] at e; cases e
theorem St.nameGoes {M' : Model} (S : St prog w B s₀ Own₀ M₀ names env Own M ρ μ s) {n : Str} {pos : Pos} {Q : Unit → Shared → Prop} (hn : names.lookup n = some .local) (hQ : ∀ s',St prog w B s₀ Own₀ M₀ names env Own M (XJ n ρ) μ s' → Q () s') :
   wpAny M' A (do bindName env n .none; unbindBehindTheSuite env n pos) Q E s:=by
 obtain ⟨m,hns⟩:=S.f.ns
 refine wpAny_nameGoes_keeps (S.e.n.lo n hn) hns (by rw [S.e.n.fn]; rfl) fun h' v hn' sb => hQ _ (S.written ⟨⟨_,hn'⟩,fun x c hx e => ?_⟩ (fun a o na e => (sb.2 a fun z => na (.inl z)).trans e) fun x r hm => ?_)
 · obtain ⟨u,q⟩:=S.f.cell x c hx e
   exact ⟨u,q.sameBut sb fun e' => yn hns (e' ▸ q)⟩
 · have hm2:=List.mem_filter.mp hm
   obtain ⟨u,hu,hr⟩:=S.e.vars x r hm2.1
   refine ⟨u, ?_,hr⟩
   have hne : x ≠ n:=by simpa using hm2.2
   rcases hu with ⟨a,m',n₂,e⟩ | ⟨a,c,e,q⟩
   · refine .inl ⟨a,_,hn', ?_⟩
     rw [if_neg hne]
     obtain ⟨o,es,ep,h1,h2,h3,h4⟩:=hns
     obtain ⟨o',es',ep',g1,g2,g3,g4⟩:=n₂
     rw [h1] at g1; cases g1
     rw [h2] at g2; cases g2
     rw [← h4,g4]; exact e
   · exact .inr ⟨a,c,e,q.sameBut sb fun e' => yn hns (e' ▸ q)⟩
theorem qH (F : yu names env h) {a : Addr} (z : zO names env a) {o : Obj} (e : h.get? a = some o) : (∀ vs,o.data ≠ .fields vs) ∧ ∀ vs n,o.data ≠ .seq vs n:=by
 rcases z with rfl | ⟨x,hx,ec⟩
 · obtain ⟨m,o',es,ep,e',hd,_⟩:=F.ns
   rw [e] at e'; cases e'
   exact ⟨fun vs q => (by rw [hd] at q; cases q),fun vs n q => (by rw [hd] at q; cases q)⟩
 · obtain ⟨v,o',e',hd⟩:=F.cell x a hx ec
   rw [e] at e'; cases e'
   exact ⟨fun vs q => (by rw [hd] at q; cases q),fun vs n q => (by rw [hd] at q; cases q)⟩
theorem KN (H : wC prog w B mg mb C N mN) (R : Rm A 4) (hL : env.frame = some env.locals) (hfr : A.frames = some [env]) {p : Nat} {dr : List Nat} {P Pr Ls Lb Le : Addr} {ps : Array Value} {os : List (Addr × Obj)} (Fp : w9 p) (T : Tb B mg env P (xY env)) (hOP : Own P) (hTb : yN (xY env) ps os) {bk : D}
  (S : St prog w B s₀ Own₀ M₀ zL env Own M [(Str.ofString "book",.dat bk),(Str.ofString "early",.adr Le),(Str.ofString "bag",.adr Lb),vT p,vW p,vD dr] [(Le,.list []),(Lb,.list []),(Ls,za (zU p)),(P,.obs P (tabObj ps) os),(Pr,.obs Pr (tabObj #[]) [])] s)
  (hQ : ∀ ps os s',yN (xY env) ps os →
   St prog w B s₀ Own₀ M₀ zL env Own M [(Str.ofString "book",.dat bk),(Str.ofString "bag",.adr Lb),vT p,vW p,vD dr] [(Le,.list []),(Lb,.list []),(Ls,za (zU p)),(P,.obs P (tabObj ps) os),(Pr,.obs Pr (tabObj #[]) [])] s' →
   wpAny (model prog w) A (execs ((zC zt).drop 20) env) Q E s') :
  wpAny (model prog w) A (execs ((zC zt).drop 19) env) Q E s:=by
 have G:=H.run.hdr.G
 obtain ⟨f,fd,t,HB,BI⟩:=H.run.bis.left
 show wpAny _ _ (execs (_ :: (zC zt).drop 20) env) _ _ _
 refine wpAny_execs_cons (wpAny_Try_except ?_)
 show wpAny _ _ (execs (_ :: _ :: []) _) _ _ _
 refine' xk S.e.n (xo (f:=.ref f) (rs:=[.dat (.list ((zM p).map .str)),.dat (.bool true),.dat (.int (-1))]) S.e (Ev.glob G S.e ?a1 (.inl HB.g) (by decide)) HB.keepy (.cons (r:=.dat (.list ((zM p).map .str))) ?a2 (.cons (r:=.dat (.bool true)) ?a3 (.cons (r:=.dat (.int (-1))) ?a4 .nil fun _ => rfl) fun _ => rfl) fun _ => rfl) rfl fun vs s₁ k₁ rs => ?a5) rfl
 case a1 => k_extra "kd"
 case a2 | a3 | a4 => k_extra "z"
 case a5 =>
  refine zP.use3 rs fun v1 v2 v3 r1 r2 r3 => ?_
  have S₁:=S.step k₁
  refine' XT T (pre:=[(Le,.list []),(Lb,.list []),(Ls,za (zU p))]) (post:=[(Pr,.obs Pr (tabObj #[]) [])]) S₁ hOP hTb xA rfl ?b1 fun kf fo kfd c' oc cl ps' os' s₂ hfd F hco hT' K S₂ rf ef => ⟨S₂.e.base, ?b2⟩
  case b1 => k_extra "kd"
  case b2 =>
   obtain ⟨t3,rfl⟩:=Rp.int_inv r3
   have efr : xm [env] = [env.locals]:=by simp [xm,hL]
   have hLoc : ∀ {s'},St prog w B s₀ Own₀ M₀ zL env Own M [(Str.ofString "book",.dat bk),(Str.ofString "early",.adr Le),(Str.ofString "bag",.adr Lb),vT p,vW p,vD dr] [(Le,.list []),(Lb,.list []),(Ls,za (zU p)),(P,.obs P (tabObj ps') os'),(Pr,.obs Pr (tabObj #[]) [])] s' → yl s'.heap [env]:=by
     intro s' S' en he
     cases List.mem_singleton.mp he
     refine ⟨by rw [S'.e.n.fn]; decide,env.locals, ?_⟩
     obtain ⟨m,o,es,ep,e,hd,_⟩:=S'.f.ns
     exact ⟨o,hL,e,fun vs z => by rw [hd] at z; cases z⟩
   refine ky (M₁:=M) (args:=⟨[v1,v2,.int (-1) t3],[(("key" : Str),.ref kf)]⟩) G H.verr HB (R.le (by decide)) S₂.e.base S₂.e.old (VI (BI.ext S₂.e.base) v1 v2 (.int (-1) t3) (.ref kf)) hfr (hLoc S₂) fun h₁ h' tk e t0 tt l₁ X1 hl1 FA => ?_
   have hXB : zR B (hideAll h₁ (xm l₁)):=fun a o e1 => by
     have e2:=S₂.e.base a o e1
     refine hideAll_get _ (X1 a o e2) fun z => ?_
     rcases hl1 a z with q | q
     · rw [efr] at q
       cases List.mem_singleton.mp q
       rw [S₂.base _ (S₂.fr _ (.inl rfl))] at e1; cases e1
     · rw [q] at e2; cases e2
   refine QP (L:=env.locals) hfr hL FA (isSubtype_of_subB (by decide +kernel)) (isSubtype_of_subB (by decide +kernel)) (isSubtype_of_subB (by decide +kernel)) ?_ ?_
   · intro s' E' Q' X' hq
     exact Xz G S₂.e.n (hXB.trans X') (by k_extra "kd") (.inr H.verr) (by decide) hq
   · intro h5 XO hex htp E'
     have S5:=S₂.landed (tk:=tk) hL X1 hl1 XO
     refine yD S5.e.n S5.f (.inl (by k_extra "kd")) fun h6 tk6 F6 hv6 hy6 hk6 => ?_
     have S6:=S5.written (tk:=tk6) F6 (fun a o n e => (hk6 a n).trans e) (ρ':=(Str.ofString "wrong",.val (.ref e)) :: [(Str.ofString "book",.dat bk),(Str.ofString "early",.adr Le),(Str.ofString "bag",.adr Lb),vT p,vW p,vD dr]) fun y u hm => by
       rcases List.mem_cons.mp hm with e2 | hm
       · cases e2
         exact ⟨_,hv6,rfl⟩
       · obtain ⟨u',hu,hr'⟩:=S5.e.vars y u hm
         refine ⟨u',hy6 y u' (fun q => ?_) hu,hr'⟩
         subst q
         exact Qd (by k_extra "kd") hm
     have x6 : h6.ExcAt e "ValueError" (.ref t0):=by
       obtain ⟨o,vs,ho,hc,hd,hv⟩:=hex
       exact ⟨o,vs,(hk6 e fun z => (qH S5.f z ho).1 _ hd).trans ho,hc,hd,hv⟩
     have t6 : h6.TupAt t0 [.str jW tt]:=by
       obtain ⟨o,n,ho,hc,hd⟩:=htp
       exact ⟨o,n,(hk6 t0 fun z => (qH S5.f z ho).2 _ _ hd).trans ho,hc,hd⟩
     clear S S₁
     have hu : (A.mark (some (.ref e))).units + 200 < 9900:=by have:=R.hu; show A.units + 200 < 9900; k_extra "o"
     show wpAny _ _ (execs (_ :: []) _) _ _ _
     refine wpAny_execs_cons (wpAny_If (isTrue_or (wpAny_isTrue_Compare1 ?g1 rfl)))
     refine' xj (f:=.type "str") (rs:=[.val (.ref e)]) S6.e (Ev.glob G S6.e ?c1 (.inr H.run.hdr.st) (by decide)) (.inl fun _ e => by cases e) (.cons (r:=.val (.ref e)) (Ev.var S6.e (.head _) ?c2) .nil fun _ => rfl) fun vs s₇ k₇ rs => ?c3
     case c1 | c2 => k_extra "kd"
     case c3 =>
       refine zP.use1 rs fun w1 q1 => ?_
       have q1 : w1 = .ref e:=q1
       subst q1
       refine PySem.P.str_of_exc_one PySem.F.excStr_ValueError (by show A.units + 2 < 9900; have:=R.hu; k_extra "o") (by
         obtain ⟨o,vs,ho,hc,hd,hv⟩:=x6
         exact ⟨o,vs,ke k₇ _ _ ho,hc,hd,hv⟩) (by
         obtain ⟨o,n,ho,hc,hd⟩:=t6
         exact ⟨o,n,ke k₇ _ _ ho,hc,hd⟩) ?_
       refine Ev.const_str (M:=M) _ _ _ s₇ _ _ (zR.refl _) fun b s₈ k₈ rb => ?_
       refine zN.neS jW (Str.ofString "lo must be non-negative") _ M s₈ _ _ _ b hu (.inl (.str _ _)) (.inl rb) fun s₉ k₉ => wpAny_truthy_bool ?_
       have S9:=S6.step (zA k₇ (zA k₈ k₉))
       rw [show (jW != Str.ofString "lo must be non-negative") = false from by unfold jW; simp]
       refine isTrue_or (wpAny_isTrue_Compare1 ?_ rfl)
       refine Ev.nameM (M:=M) S9.e xA (.head _) (by decide) s₉ _ _ (zR.refl _) fun a s10 k10 ra => ?_
       refine Ev.list (M:=M) (S9.step k10).e .nil (by show 0 ≤ _; k_extra "o") s10 _ _ (zR.refl _) fun b2 s11 k11 rb2 => ?_
       refine zN.ne (da:=.list []) (db:=.list []) rfl rfl _ M s11 _ _ a b2 hu (ra.ext (ke k11)) (.inl rb2) fun s12 k12 => wpAny_truthy_bool ?_
       rw [show (!We (.list []) (.list [])) = false from rfl]
       refine isTrue_or_nil ?_
       refine zD ?_
       have S12:=S9.step (zA k10 (zA k11 k12))
       refine zD ?_
       refine S12.nameGoes (by k_extra "kd") fun s13 S13 => ?_
       exact hQ ps' os' s13 hT' (S13.sub (by
         intro x r hm
         simp only [List.mem_cons,List.not_mem_nil,or_false] at hm
         rcases hm with e | e | e | e | e <;> cases e <;> exact xh (by simp) (by decide)))
end
noncomputable def Wa (p n : Nat) : List Str:=(List.range 4).map fun k => if VT n k then zv ++ (zk p).getD k eS ++ xq else xE
noncomputable def kW (p n : Nat) : Str:=wW eS (Wa p n)
noncomputable def xQ (want : Str) : Bool:=decide (want.length ≤ 1000) && (decide (2 ≤ (zz want zT).length) || !inS zT want) && decide ((zz want zT).length ≤ 1000) && (zz want zT).all fun x => decide (x.length ≤ 1000)
theorem wh {want got : Str} (h : xQ want = true) (hg : got.length ≤ 1000) : w0 want got = true:=by
 simp only [xQ,Bool.and_eq_true] at h
 simp only [w0,Bool.and_eq_true,decide_eq_true_eq]
 obtain ⟨⟨⟨h1,h2⟩,h3⟩,h4⟩:=h
 exact ⟨⟨⟨⟨of_decide_eq_true h1,hg⟩,h2⟩,of_decide_eq_true h3⟩,h4⟩
theorem Zl : ∀ p : Fin 10,∀ n : Fin 16,(yc eS (Wa p n) && xQ (kW p n)) = true:=by decide +kernel
theorem wd {p n : Nat} (Fp : w9 p) (hn : n < 16) : (zG p n).length ≤ 1000:=by
 have hs:=Fp.short n hn
 unfold zG
 rw [Str.length_append,Str.length_append,show zv.length = 1 from rfl,show xq.length = 1 from rfl]
 k_extra "o"
theorem ZH : ∀ p : Fin 10,∀ k : Fin 4,decide (((zk p).getD k eS).length ≤ 100) = true:=by decide +kernel
theorem XV : ∀ n : Fin 16,(xi (xc n) && wa (zX (xc n)) && PyData.strOk (zX (xc n))) = true:=by decide +kernel
theorem Vt {p : Nat} {y : Str × Str} (hy : y ∈ zU p) : y.2 ∈ zM p ∧ xi y.1 = true ∧ wa (zX y.1) = true ∧ PyData.strOk (zX y.1) = true:=by
 obtain ⟨n,hn,rfl⟩:=List.mem_map.mp hy
 have hn:=qT n hn
 have h:=XV ⟨n,hn⟩
 simp only [Bool.and_eq_true] at h
 exact ⟨List.mem_map.mpr ⟨n,List.mem_range.mpr hn,rfl⟩,h.1.1,h.1.2,h.2⟩
section
variable {prog : Program} {w : World} {A : Around} {B : Heap} {s₀ s : Shared} {Own₀ M₀ Own M : Addr → Prop} {names : zJ} {env : Env} {ρ : List (Str × RV)} {μ : List (Addr × D)} {h : Heap} {Q : Flow → Shared → Prop} {E : Value → Shared → Prop} {rest : List Stmt} {mg mb : Str → Option Value} {mN : Str → Option Value} {C N : Addr}
theorem Vk {elts : List Expr} {k : Nat} {tpos pos : Pos} {e : Expr} {bs : List (Str × RV)} (hh : A.handled = none) (hs : swapsWithSole [.Tuple elts k tpos] e pos.line env = pure false) (hw : swappedStores [.Tuple elts k tpos] e env = pure none)
  (hv : wpAny (model prog w) A (eval e env) (fun v s₁ => ∃ Own M ρ μ d,St prog w B s₀ Own₀ M₀ names env Own M ρ μ s₁ ∧ Rp prog w s₁.heap M v d ∧ wD prog w names (.Tuple elts k tpos) d bs ∧ ∀ s',St prog w B s₀ Own₀ M₀ names env Own M (bs ++ ρ.filter fun p => !(bs.map (·.1)).contains p.1) μ s' → wpAny (model prog w) A (execs rest env) Q E s') E s) :
  wpAny (model prog w) A (execs (.Assign [.Tuple elts k tpos] e pos :: rest) env) Q E s:=by
 refine wpAny_execs_cons (PyProof.Rows.Assign_Tuple (wpAny_mono hv (fun v s₁ hz => ?_) fun _ _ x => x) hs hw)
 obtain ⟨Own,M,ρ,μ,d,S,r,G,hk⟩:=hz
 exact S.assign hh G r hk
noncomputable def yC (p : Nat) (dr : List Nat) : List Str:=dr.map (kW p)
noncomputable abbrev Qz (p : Nat) (dr : List Nat) : xC:=xG (zU p) (zM p) (yC p dr)
structure Zd (B : Heap) (mg : Str → Option Value) (Pr : Addr) : Prop where
 fn : ∃ rf rfd,mg (Str.ofString "_law_run") = some (.ref rf) ∧ yB B Wp rf rfd ∧ (∃ c,rfd.code = .ref c ∧ CodeHd B c Pr) ∧ ∀ s a b c,BindsTo s rfd ⟨[a,b,c],[]⟩ [(Str.ofString "book",a),(Str.ofString "texts",b),(Str.ofString "wants",c)]
theorem Jj (H : wC prog w B mg mb C N mN) (R : Rm A 5) {p : Nat} {dr : List Nat} {st : xC} (hst : Qz p dr = st) (Fp : w9 p) (hd16 : ∀ d ∈ dr,d < 16) (hdl : dr.length ≤ 4)
  {P Ls Lb Le : Addr} {ps : Array Value} {os : List (Addr × Obj)} {bk : D} (hI : qY prog w bk C Ls) {Pr : Addr} (hrun : Zd B mg Pr) (hOr : Own Pr)
  (S : St prog w B s₀ Own₀ M₀ zL env Own M [(Str.ofString "book",.dat bk),(Str.ofString "bag",.adr Lb),vT p,vW p,vD dr] [(Le,.list []),(Lb,.list []),(Ls,za (zU p)),(P,.obs P (tabObj ps) os),(Pr,.obs Pr (tabObj #[]) [])] s)
  (hQ : ∀ ps' os' s',
   St prog w B s₀ Own₀ M₀ zL env Own M [vC st,vK st,vA st,(Str.ofString "bag",.adr Lb),vT p,vW p,vD dr] [(Le,.list []),(Lb,.list []),(Ls,za (zU p)),(P,.obs P (tabObj ps) os),(Pr,.obs Pr (tabObj ps') os')] s' →
   wpAny (model prog w) A (execs ((zC zt).drop 22) env) Q E s') :
  wpAny (model prog w) A (execs ((zC zt).drop 20) env) Q E s:=by
 have R0 : Rm A 0:=R.le (Nat.zero_le _)
 have G:=H.run.hdr.G
 have hr:=H.run.range
 have hp10:=Fp.lt
 show wpAny _ _ (execs (_ :: _ :: (zC zt).drop 22) env) _ _ _
 refine' yr S ?c1 R0 ?c2 (dsrc:=.list (dr.map fun d : Nat => .int d)) ?c3 dr (fun n : Nat => .int n) (zb.list _) (fun n => .str (kW p n)) ?c4 ?c5 ?c6 ?c7 ?c8
 case c1 | c2 => k_extra "kd"
 case c3 => clear hst; k_extra "z"
 case c4 => k_extra "kd"
 case c5 => rw [sizeLine_eq]; k_extra "o"
 case c6 => k_extra "fs"
 case c7 =>
  clear hst
  intro n hn env' h' M' kx hE
  have hn:=hd16 n hn
  obtain ⟨hf1,_⟩:=(Bool.and_eq_true _ _).mp (Zl ⟨p,hp10⟩ ⟨n,hn⟩)
  refine' Ev.meth (T := "str") hE R0 ?qo rfl F.plainAttrs_str F.slot_str_join F.type_str_join (xJ.cons (Ev.rd (Ev.cast (Ev.comp1 hE R0 ?y1 (dsrc:=.rng 0 (4 : Nat) 1) ?y2 (List.range 4) (fun n : Nat => .int n) (zb.nat (by decide)) (fun k => .str (if VT n k then zv ++ (zk p).getD k eS ++ xq else xE)) ?y3 ?y4 ?y5 ?y6) ?y7)) .nil fun _ => rfl) rfl (by decide) rfl (zH.join eS (Wa p n) hf1)
  clear hf1
  case qo => k_extra "z"
  case y1 => k_extra "kd"
  case y2 => k_extra "z"
  case y3 => k_extra "kd"
  case y4 => rw [List.length_range,sizeLine_eq]; decide
  case y5 => k_extra "fs"
  case y7 => unfold Wa; rw [List.map_map]; rfl
  case y6 =>
   clear hE
   intro k hk env'' h'' M'' kx' hE
   have hk:=List.mem_range.mp hk
   have hw:=ZH ⟨p,hp10⟩ ⟨k,hk⟩
   rw [decide_eq_true_eq] at hw
   refine' Ev.cast (Ev.ifExp (d:=.str (zv ++ (zk p).getD k eS ++ xq)) (e:=.str xE) (b:=VT n k) ?t1 (fun _ => ?t2) (fun _ => ?t3)) ?t4
   case t1 =>
     refine' Tv.plain (Ev.rd (Ev.bin (da:=.int ((n : Int).fdiv (2 ^ k))) (db:=.int 1) hE (Ev.rd (Ev.bin (da:=.int n) (db:=.int k) hE ?u1 ?u2 (yL.shr _ _ ?u3))) ?u4 (yL.and _ _))) (yq.int _) rfl
     case u1 | u2 => k_extra "z"
     case u3 => k_extra "o"
     case u4 => k_extra "z"
   case t3 => k_extra "z"
   case t4 => cases VT n k <;> rfl
   case t2 =>
     refine' Ev.bin (da:=.str (zv ++ (zk p).getD k eS)) (db:=.str xq) hE (Ev.rd (Ev.bin (da:=.str zv) (db:=.str ((zk p).getD k eS)) hE ?d1 (Ev.rd ?d2) (yL.addS _ _ ?d3))) ?d4 (yL.addS _ _ ?d5)
     case d1 | d4 => k_extra "z"
     case d3 => rw [sizeLine_eq,show zv.length = 1 from rfl]; dsimp only at hw; k_extra "o"
     case d5 => rw [sizeLine_eq,Str.length_append,show zv.length = 1 from rfl,show xq.length = 1 from rfl]; dsimp only at hw; k_extra "o"
     case d2 =>
       refine' Ev.item (xs:=(zk p).map .str) (i:=(k : Int)) ?v1 ?v2 (by k_extra "o") (by k_extra "o") (wm (by rw [Fp.len]; exact hk))
       case v1 | v2 => k_extra "z"
 case c8 =>
  k_extra "next"
  have e1 : dr.map (fun n => D.str (kW p n)) = (yC p dr).map .str:=by unfold yC; rw [List.map_map]; rfl
  rw [e1] at S
  have hh:=fun y (hy : y ∈ zU p) => Vt hy
  have hpl:=ZM p
  obtain ⟨rf,rfd,hrg,HF,hcd,hbr⟩:=hrun.fn
  refine' Vk (bs:=[vC st,vK st,vA st]) R.hh rfl rfl (xj (f:=.ref rf) (rs:=[.dat bk,.dat (.list ((zM p).map .str)),.dat (.list ((yC p dr).map .str))]) S.e (Ev.glob G S.e ?g1 (.inl hrg) (by decide)) HF.keepy (.cons (r:=.dat bk) ?g2 (.cons (r:=.dat (.list ((zM p).map .str))) ?g3 (.cons (r:=.dat (.list ((yC p dr).map .str))) ?g4 .nil fun _ => rfl) fun _ => rfl) fun _ => rfl) fun vs s₁ k₁ rs => ?g5)
  case g1 => k_extra "kd"
  case g2 | g3 | g4 => clear hrg hst; k_extra "z"
  case g5 =>
   refine zP.use3 rs fun v1 v2 v3 r1 r2 r3 => ?_
   have S₁:=S.step k₁
   refine QQ H.run HF hcd hbr (M₁:=M) (Lr:=Ls) (ys:=zU p) (R.le (by decide)) S₁.e.base S₁.e.old (S₁.own Pr hOr) (S₁.base Pr hOr) (S.ne_of 2 4 rfl rfl (by decide)) hI r1 r2 r3 (S₁.e.mem Pr _ j5) (S₁.e.mem Ls _ xA) (by unfold zM; simp) (by k_extra "o") (fun y hy => (hh y hy).1) (fun y hy => (hh y hy).2.1) (fun y hy => (hh y hy).2.2.1) (fun y hy => (hh y hy).2.2.2) (fun want hw t ht => ?_) (by unfold yC; rw [List.length_map]; k_extra "o") fun v s₂ ps' os' ef hc rv => ?_
   · obtain ⟨n,hn,rfl⟩:=List.mem_map.mp hw
     obtain ⟨m,hm,rfl⟩:=List.mem_map.mp ht
     have hf:=Zl ⟨p,hp10⟩ ⟨n,hd16 n hn⟩
     rw [Bool.and_eq_true] at hf
     exact wh hf.2 (wd Fp (List.mem_range.mp hm))
   · obtain ⟨h2,tk2,rfl,kk⟩:=ef
     rw [show xG (zU p) (zM p) (yC p dr) = st from hst] at rv
     have S₂:=S₁.effect1 (pre:=[(Le,.list []),(Lb,.list []),(Ls,za (zU p)),(P,.obs P (tabObj ps) os)]) (post:=[]) (h':=h2) (tk:=tk2) rfl hOr (fun b o n e => kk b o (by simpa using n) e) hc
     refine ⟨Own,M,_,_,_,S₂,rv,wD.tuple [(Str.ofString "chains",_),(Str.ofString "known",_),(Str.ofString "asked",_)] rfl (by decide) (by k_extra "kd") rfl,fun s' S' => hQ ps' os' s' (S'.sub ?_)⟩
     refine all_cons ?_ (all_cons ?_ (all_cons ?_ (all_cons ?_ (all_cons ?_ (all_cons ?_ (all_cons ?_ all_nil))))))
     · exact List.mem_append_left _ (.head _)
     · exact List.mem_append_left _ yo
     · exact List.mem_append_left _ xA
     · exact List.mem_append_right _ (jA (.tail _ (xh (by simp) (by decide))) (by simp only [List.map_cons,List.map_nil]; decide))
     · exact List.mem_append_right _ (jA (.tail _ (xh (by simp) (by decide))) (by simp only [List.map_cons,List.map_nil]; decide))
     · exact List.mem_append_right _ (jA (.tail _ (xh (by simp) (by decide))) (by simp only [List.map_cons,List.map_nil]; decide))
     · exact List.mem_append_right _ (jA (.tail _ (xh (by simp) (by decide))) (by simp only [List.map_cons,List.map_nil]; decide))
end
noncomputable def yP (dr : List Nat) (o : Nat) : Bool:=!(((dr.filter fun d : Nat => Builtin.bitAnd (d : Int) (o : Int) == (d : Int)).map fun d : Nat => (d : Int)).isEmpty)
noncomputable abbrev vY (l : List Nat) : Str × RV:=(Str.ofString "yes",.dat (.list ((List.range 16).map fun o => .bool (yP l o))))
noncomputable def chK (kind : Str) (k : Nat) : Str:=⟨#[(kind.cps[k]?).getD 0]⟩
noncomputable def ZL (kind : Str) : Int:=(((List.range 4).filter fun k => chK kind k == bS).map fun k => 1 * 2 ^ k).sum
noncomputable def yi (kind : Str) : List Nat:=(List.range 4).filter fun k => chK kind k == xS
noncomputable def Vw (kind : Str) : List Int:=(List.range ((yi kind).length + 1)).map fun j => ZL kind + (((yi kind).take j).map fun k => 1 * 2 ^ k).sum
noncomputable def yA (kind : Str) : List Nat:=(Vw kind).map Int.toNat
noncomputable def yZ : List Str:=xL ((zU 0).map (·.1))
theorem Wq : (yZ.all fun kind => decide (kind.cps.size = 4) && decide ((yA kind).map (fun n : Nat => (n : Int)) = Vw kind) && (yA kind).all fun n => decide (n < 16)) = true:=by decide +kernel
structure Vu (kind : Str) : Prop where
 size : kind.cps.size = 4
 row : (yA kind).map (fun n : Nat => (n : Int)) = Vw kind
 lt : ∀ n ∈ yA kind,n < 16
theorem Ju {kind : Str} (h : kind ∈ yZ) : Vu kind:=by
 have hf:=Wq
 rw [List.all_eq_true] at hf
 have:=hf kind h
 simp only [Bool.and_eq_true,decide_eq_true_eq,List.all_eq_true] at this
 exact ⟨this.1.1,this.1.2,this.2⟩
noncomputable def Z7 (dr : List Nat) (kind : Str) : Nat:=((yA kind).filter fun n => !yP dr n).length
noncomputable def j8 (p : Nat) (dr : List Nat) (still asks : Str → Int) (kind : Str) : D:=.tup [.str kind,.list ((yA kind).map fun n => .str (zG p n)),.int (still kind),.int (asks kind),.int (Z7 dr kind)]
structure Kv (p : Nat) (dr : List Nat) (st : xC) : Prop where
 chains : ∃ still asks,st.chains = yZ.map (j8 p dr still asks) ∧ ∀ kind ∈ yZ,still kind ≤ 2 ∧ asks kind ≤ still kind
 asked : ∀ y ∈ st.asked,∃ n,n < 16 ∧ y = (zG p n,yP dr n)
 few : st.asked.length ≤ 1000
 known : ∀ n,n < 16 → xB st.kb.1 st.kb.2 (zG p n) = some (yP dr n)
section
variable {prog : Program} {w : World} {A : Around} {B : Heap} {s₀ s : Shared} {Own₀ M₀ Own M : Addr → Prop} {names : zJ} {env : Env} {ρ : List (Str × RV)} {μ : List (Addr × D)} {h : Heap} {Q : Flow → Shared → Prop} {E : Value → Shared → Prop} {rest : List Stmt} {mg mb : Str → Option Value} {mN : Str → Option Value} {C N : Addr}
theorem JV (H : wC prog w B mg mb C N mN) (R : Rm A 5) {p : Nat} {dr : List Nat} {st : xC} (hdl : dr.length ≤ 4) {Lb : Addr}
  (S : St prog w B s₀ Own₀ M₀ zL env Own M [vC st,vK st,vA st,(Str.ofString "bag",.adr Lb),vT p,vW p,vD dr] μ s)
  (hQ : ∀ s',
   St prog w B s₀ Own₀ M₀ zL env Own M [vY dr,vC st,vK st,vA st,(Str.ofString "bag",.adr Lb),vT p,vW p,vD dr] μ s' →
   wpAny (model prog w) A (execs ((zC zt).drop 23) env) Q E s') :
  wpAny (model prog w) A (execs ((zC zt).drop 22) env) Q E s:=by
 have R0 : Rm A 0:=R.le (Nat.zero_le _)
 have G:=H.run.hdr.G
 have hr:=H.run.range
 show wpAny _ _ (execs (_ :: (zC zt).drop 23) env) _ _ _
 refine' yr S ?c1 R0 ?c2 (dsrc:=.rng 0 (16 : Nat) 1) ?c3 (List.range 16) (fun n : Nat => .int n) (zb.nat (by decide)) (fun o => .bool (yP dr o)) ?c4 ?c5 ?c6 ?c7 ?c8
 case c1 | c2 => k_extra "kd"
 case c3 => k_extra "z"
 case c4 => k_extra "kd"
 case c5 => rw [List.length_range,sizeLine_eq]; decide
 case c6 => k_extra "fs"
 case c7 =>
  intro o ho env' h' M' kx hE
  refine' Ev.cast (Ev.cmp (da:=.list (((dr.filter fun d : Nat => Builtin.bitAnd (d : Int) (o : Int) == (d : Int)).map fun d : Nat => (d : Int)).map .int)) (db:=.list []) R0 (Ev.rd (Ev.cast (Ev.comp1F hE R0 ?y1 (dsrc:=.list (dr.map fun d : Nat => .int d)) ?y2 dr (fun n : Nat => .int n) (zb.list _) (fun d : Nat => Builtin.bitAnd (d : Int) (o : Int) == (d : Int)) (fun d : Nat => .int d) ?y3 ?y4 ?y5 ?y6) ?y7)) ?y8 (zN.ne (xZ _) rfl) rfl) ?y9
  case y1 => k_extra "kd"
  case y2 => k_extra "z"
  case y3 => k_extra "kd"
  case y4 => rw [sizeLine_eq]; k_extra "o"
  case y5 => k_extra "fs"
  case y7 => rw [List.map_map]; rfl
  case y8 => k_extra "z"
  case y9 => rw [WF]; rfl
  case y6 =>
   clear hE
   intro d hd env'' h'' M'' kx' hE
   refine ⟨xO.one ?t1,fun _ => ?t2⟩
   case t1 =>
    refine' Tv.cmp R0 (Ev.rd (Ev.bin (da:=.int d) (db:=.int o) hE ?u1 ?u2 (yL.and _ _))) ?u3 (zN.eqI _ _) rfl
    case u1 | u2 | u3 => k_extra "z"
   case t2 => k_extra "z"
 case c8 =>
  intro s' S'
  exact hQ s' (S'.sub (by k_extra "sub"))
theorem JZ {kind : Str} (K : Vu kind) {k : Nat} (hk : k < 4) : (seqIndex? (k : Int) kind.length).bind (kind.cps[·]?) = some ((kind.cps[k]?).getD 0):=by
 have hl : kind.length = 4:=K.size
 have hlt : k < kind.cps.size:=by rw [K.size]; exact hk
 have hs : kind.cps[k]? = some kind.cps[k]:=Array.getElem?_eq_getElem hlt
 rw [hl]
 rw [KW hk]
 show kind.cps[k]? = _
 rw [hs]; rfl
theorem WO {kind : Str} {k : Nat} {ie : Expr} {xp pos : Pos} (S : En prog w B names env h M ρ μ) (K : Vu kind) (hk : k < 4) (hm : (Str.ofString "kind",RV.dat (.str kind)) ∈ ρ) (hi : Ev prog w A h ie env (PR prog w M (.int k))) :
  Ev prog w A h (.Subscript (.Name (Str.ofString "kind") xp) ie pos) env (PS prog w M (.str (chK kind k))) :=
 Ev.itemC (Ev.rd (Ev.name S hm (by decide))) hi (by rw [Bool.or_eq_false_iff]; constructor <;> rw [decide_eq_false_iff_not] <;> k_extra "o") (JZ K hk)
theorem YZ {f : Nat → Bool} {n m : Nat} (h : n < m) : ((List.range m).map fun o => D.bool (f o))[((n : Nat) : Int).toNat]? = some (.bool (f n)):=by
 rw [Int.toNat_natCast,List.getElem?_map,List.getElem?_range h]; rfl
theorem Zc {p n : Nat} (h : n < 16) : ((zM p).map D.str)[((n : Nat) : Int).toNat]? = some (.str (zG p n)):=by
 rw [Int.toNat_natCast,List.getElem?_map]; unfold zM; rw [List.getElem?_map,List.getElem?_range h]; rfl
theorem Jp (H : wC prog w B mg mb C N mN) (R : Rm A 5) {p : Nat} {dr : List Nat} (Fp : w9 p) (hdl : dr.length ≤ 4) {still asks : Str → Int} (hsa : ∀ kind ∈ yZ,still kind ≤ 2 ∧ asks kind ≤ still kind) {kd ad : D} {Lb : Addr}
  (S : St prog w B s₀ Own₀ M₀ zL env Own M [vY dr,(Str.ofString "chains",.dat (.list (yZ.map (j8 p dr still asks)))),(Str.ofString "known",.dat kd),(Str.ofString "asked",.dat ad),(Str.ofString "bag",.adr Lb),vT p,vW p,vD dr] μ s)
  (hQ : ∀ s',
   St prog w B s₀ Own₀ M₀ zL env Own M [vY dr,(Str.ofString "known",.dat kd),(Str.ofString "asked",.dat ad),(Str.ofString "bag",.adr Lb),vT p,vW p,vD dr] μ s' →
   wpAny (model prog w) A (execs ((zC zt).drop 24) env) Q E s') :
  wpAny (model prog w) A (execs ((zC zt).drop 23) env) Q E s:=by
 have R0 : Rm A 0:=R.le (Nat.zero_le _)
 have G:=H.run.hdr.G
 have hr:=H.run.range
 have hlen:=H.run.bis.len
 show wpAny _ _ (execs (_ :: (zC zt).drop 24) env) _ _ _
 refine' xa (α:=Str) (σ:=Unit) S R0 ?qv (dsrc:=.list (yZ.map (j8 p dr still asks))) yZ (j8 p dr still asks) (zb.list _)
  (fun kind => [(Str.ofString "kind",.dat (.str kind)),(Str.ofString "chain",.dat (.list ((yA kind).map fun n => .str (zG p n)))),(Str.ofString "still",.dat (.int (still kind))),(Str.ofString "asks",.dat (.int (asks kind))),(Str.ofString "cut",.dat (.int (Z7 dr kind)))]) ?asg ?fs
  (fun _ => [vY dr,(Str.ofString "known",.dat kd),(Str.ofString "asked",.dat ad),(Str.ofString "bag",.adr Lb),vT p,vW p,vD dr])
  (fun _ => μ) (fun _ _ => True) (fun _ _ _ => False) () trivial ?rho rfl ?off ?turn ?done ?exit
 case qv => k_extra "z"
 case asg => exact fun y _ => wD.tuple [(Str.ofString "kind",_),(Str.ofString "chain",_),(Str.ofString "still",_),(Str.ofString "asks",_),(Str.ofString "cut",_)] rfl (by decide) (by k_extra "kd") rfl
 case fs => k_extra "fs"
 case rho => k_extra "sub"
 case off => intro c y; simp only [List.map_cons,List.map_nil]; k_extra "kd"
 case exit => exact fun f c s' h _ => h.elim
 case done =>
  intro c s' _ S'
  exact zD (hQ s' S')
 case turn =>
  clear S hQ
  intro i kind _ M' s₁ hy _ hMM S
  have hkm : kind ∈ yZ:=List.mem_of_getElem? hy
  have K:=Ju hkm
  obtain ⟨hs1,hs2⟩:=hsa kind hkm
  clear hy hMM hsa
  show wpAny _ _ (execs (_ :: _ :: _ :: _ :: _ :: []) _) _ _ _
  refine' yK S ?a1 ?a2 rfl ?a3
  case a2 => k_extra "kd"
  case a1 =>
   refine' Ev.cast (d':=.int (ZL kind)) (Ev.call S.e (R.le (by decide : 1 ≤ 5)) (Ev.glob G S.e ?zf (.inr H.sum) (by decide)) ?zK (xJ.cons (Ev.rd (Ev.comp1F S.e R0 ?y1 (dsrc:=.rng 0 (4 : Nat) 1) ?y2 (List.range 4) (fun n : Nat => .int n) (zb.nat (by decide)) (fun k => chK kind k == bS) (fun k : Nat => .int (1 * 2 ^ k)) ?y3 ?y4 ?y5 ?y6)) xJ.nil (fun _ => rfl)) (zH.sum (k:=0) _ ?zy)) ?zq
   case zf => k_extra "kd"
   case zK => k_extra "z"
   case zy => exact List.all_eq_true.mpr fun d hd => by obtain ⟨k,_,rfl⟩:=List.mem_map.mp hd; rfl
   case zq => rw [List.map_map]; rfl
   case y1 => k_extra "kd"
   case y2 => k_extra "z"
   case y3 => k_extra "kd"
   case y4 => rw [List.length_range,sizeLine_eq]; decide
   case y5 => k_extra "fs"
   case y6 =>
    intro k hk env'' h'' M'' kx' hE
    have hk:=List.mem_range.mp hk
    refine ⟨xO.one (Tv.cmp R0 (Ev.rd (WO hE K hk ?t1 ?t2)) ?t3 (zN.eqS _ _) rfl),fun _ => ?t4⟩
    case t1 => k_extra "mem"
    case t2 | t3 => k_extra "z"
    case t4 =>
     refine' Ev.bin (da:=.int 1) (db:=.int k) hE ?u1 ?u2 (yL.shl _ _ ?u3 ?u4 ?u5)
     case u1 | u2 => k_extra "z"
     case u3 | u4 => k_extra "o"
     case u5 => decide
  case a3 =>
   k_extra "next"
   refine' km S ?b1 R0 ?b2 (dsrc:=.rng 0 (4 : Nat) 1) ?b3 (List.range 4) (fun n : Nat => .int n) (zb.nat (by decide)) (fun k => chK kind k == xS) (fun k : Nat => .int k) ?b4 ?b5 ?b6 ?b7 ?b8
   case b1 | b2 => k_extra "kd"
   case b3 => k_extra "z"
   case b4 => k_extra "kd"
   case b5 => rw [List.length_range,sizeLine_eq]; decide
   case b6 => k_extra "fs"
   case b7 =>
    intro k hk env'' h'' M'' kx' hE
    have hk:=List.mem_range.mp hk
    refine ⟨xO.one (Tv.cmp R0 (Ev.rd (WO hE K hk ?t1 ?t2)) ?t3 (zN.eqS _ _) rfl),fun _ => ?t4⟩
    case t1 => k_extra "mem"
    case t2 | t3 | t4 => k_extra "z"
   case b8 =>
    k_extra "next"
    have hfl : (yi kind).length ≤ 4:=by unfold yi; exact Nat.le_trans (List.length_filter_le _ _) (by rw [List.length_range]; exact Nat.le_refl _)
    rw [show List.filter (fun k => chK kind k == xS) (List.range 4) = yi kind from rfl] at S
    have S2:=S.sub (ρ':=[(Str.ofString "free",.dat (.list ((yi kind).map fun k : Nat => .int k))),(Str.ofString "shut",.dat (.int (ZL kind))),(Str.ofString "kind",.dat (.str kind)),(Str.ofString "chain",.dat (.list ((yA kind).map fun n => .str (zG p n)))),(Str.ofString "still",.dat (.int (still kind))),(Str.ofString "asks",.dat (.int (asks kind))),(Str.ofString "cut",.dat (.int (Z7 dr kind))),vY dr,(Str.ofString "known",.dat kd),(Str.ofString "asked",.dat ad),(Str.ofString "bag",.adr Lb),vT p,vW p,vD dr]) (by k_extra "sub")
    clear S
    have S:=S2
    clear S2
    refine' yr S ?d1 R0 ?d2 (dsrc:=.rng 0 (((yi kind).length + 1 : Nat) : Int) 1) ?d3 (List.range ((yi kind).length + 1)) (fun n : Nat => .int n) (zb.nat ?d0) (fun j => .int (ZL kind + (((yi kind).take j).map fun k : Nat => (1 * 2 ^ k : Int)).sum)) ?d4 ?d5 ?d6 ?d7 ?d8
    case d0 =>
     have hsm : ∀ m : Fin 5,Builtin.Range.small 0 ((m.val + 1 : Nat) : Int) 1 = true:=by decide
     exact hsm ⟨(yi kind).length,by k_extra "o"⟩
    case d1 | d2 => k_extra "kd"
    case d3 =>
     refine' Ev.rd (Ev.call S.e R0 (Ev.glob G S.e ?e1 (.inr hr) (by decide)) ?e2 (xJ.cons (Ev.rd (Ev.cast (Ev.bin (da:=.int ((yi kind).length)) (db:=.int 1) S.e (Ev.rd (Ev.cast (Ev.call S.e R0 (Ev.glob G S.e ?e3 (.inr hlen) (by decide)) ?e4 (xJ.cons ?e5 .nil fun _ => rfl) (zH.lenL ((yi kind).map fun k : Nat => .int k) ?e6)) ?e7)) ?e8 (yL.add _ _)) (d':=.int (((yi kind).length + 1 : Nat) : Int)) ?e9)) .nil fun _ => rfl) (zH.range1 _))
     case e1 => k_extra "kd"
     case e2 => k_extra "z"
     case e3 => k_extra "kd"
     case e4 | e5 => k_extra "z"
     case e6 => rw [List.length_map,sizeLine_eq]; k_extra "o"
     case e7 => rw [List.length_map]
     case e8 => k_extra "z"
     case e9 => simp
    case d4 => k_extra "kd"
    case d5 => rw [List.length_range,sizeLine_eq]; k_extra "o"
    case d6 => k_extra "fs"
    case d7 =>
     intro j hj env' h' M' kx hE
     refine' Ev.bin (da:=.int (ZL kind)) (db:=.int ((((yi kind).take j).map fun k : Nat => (1 * 2 ^ k : Int)).sum)) hE ?f1 (Ev.rd (Ev.cast (Ev.call hE (R.le (by decide : 1 ≤ 5)) (Ev.glob G hE ?zf (.inr H.sum) (by decide)) ?zK (xJ.cons (Ev.rd (Ev.comp1 hE R0 ?y1 (dsrc:=.list (((yi kind).take j).map fun k : Nat => .int k)) (Ev.rd (Ev.cast (Ev.slice (xs:=(yi kind).map fun k : Nat => .int k) (lo:=none) (hi:=some (j : Int)) (st:=none) hE ?qv zd.none ?qu zd.none (by decide) ?qz) ?qq)) ((yi kind).take j) (fun n : Nat => .int n) (zb.list _) (fun k : Nat => .int (1 * 2 ^ k)) ?y3 ?y4 ?y5 ?y6)) xJ.nil (fun _ => rfl)) (zH.sum (k:=0) _ ?zy)) ?zq)) (yL.add _ _)
     case f1 => k_extra "z"
     case zf => k_extra "kd"
     case zK => k_extra "z"
     case zy => exact List.all_eq_true.mpr fun d hd => by obtain ⟨k,_,rfl⟩:=List.mem_map.mp hd; rfl
     case zq => rw [List.map_map]; rfl
     case y1 => k_extra "kd"
     case qv | qu => k_extra "z"
     case qz => rw [List.length_map,sizeLine_eq]; k_extra "o"
     case qq => rw [j7,List.map_take]
     case y3 => k_extra "kd"
     case y4 => rw [List.length_take,sizeLine_eq]; k_extra "o"
     case y5 => k_extra "fs"
     case y6 =>
      clear hE
      intro k hk env'' h'' M'' kx' hE
      have hk : k < 4:=by
       have:=List.mem_of_mem_take hk
       unfold yi at this
       exact List.mem_range.mp (List.mem_filter.mp this).1
      refine' Ev.bin (da:=.int 1) (db:=.int k) hE ?u1 ?u2 (yL.shl _ _ ?u3 ?u4 ?u5)
      case u1 | u2 => k_extra "z"
      case u3 | u4 => k_extra "o"
      case u5 => decide
    case d8 =>
     k_extra "next"
     have er : (List.range ((yi kind).length + 1)).map (fun j => D.int (ZL kind + (((yi kind).take j).map fun k : Nat => (1 * 2 ^ k : Int)).sum)) = (yA kind).map fun n : Nat => .int n:=by
      have:=congrArg (List.map D.int) K.row
      rw [List.map_map] at this
      rw [show (fun n : Nat => D.int (n : Int)) = D.int ∘ fun n : Nat => (n : Int) from rfl,this]
      unfold Vw
      rw [List.map_map]; rfl
     rw [er] at S
     clear er
     have hrl : (yA kind).length ≤ 5:=by unfold yA Vw; rw [List.length_map,List.length_map,List.length_range]; k_extra "o"
     have hoc : w8 8 (.list ((yA kind).map fun n => .str (zG p n))) = true:=by
      rw [xz,List.all_eq_true]
      intro d hd
      obtain ⟨n,hn,rfl⟩:=List.mem_map.mp hd
      exact Fp.ok n (K.lt n hn)
     refine' vp S ?g1 fun s2 S2 => ?g2
     case g1 =>
      refine' Tv.cast (Tv.or_cons (a:=false) (b:=false) (Tv.cast (Tv.cmp (da:=.list ((yA kind).map fun n => .str (zG p n))) (db:=.list ((yA kind).map fun n => .str (zG p n))) R0 ?l1 (Ev.rd (Ev.comp1 S.e R0 ?m1 (dsrc:=.list ((yA kind).map fun n : Nat => .int n)) ?m2 (yA kind) (fun n : Nat => .int n) (zb.list _) (fun n => .str (zG p n)) ?m3 ?m4 ?m5 ?m6)) (zN.ne hoc hoc) rfl) (by rw [yt hoc]; rfl)) fun _ =>
       Tv.cast (Tv.or_cons (a:=false) (b:=false) (Tv.cast (Tv.cmp R0 ?l3 ?l4 (zN.gt (still kind) 2) rfl) (by rw [decide_eq_false_iff_not]; k_extra "o")) fun _ =>
       Tv.cast (Tv.or_cons (a:=false) (b:=false) (Tv.cast (Tv.cmp R0 ?l5 ?l6 (zN.gt (asks kind) (still kind)) rfl) (by rw [decide_eq_false_iff_not]; k_extra "o")) fun _ => Tv.or_nil) rfl) rfl) rfl
      case l1 | l3 | l4 | l5 | l6 => k_extra "z"
      case m1 => k_extra "kd"
      case m2 => k_extra "z"
      case m3 => k_extra "kd"
      case m4 => rw [sizeLine_eq]; k_extra "o"
      case m5 => k_extra "fs"
      case m6 =>
       intro n hn env' h' M' kx hE
       refine' Ev.item (xs:=(zM p).map .str) (i:=(n : Int)) ?v1 ?v2 (by k_extra "o") (by have:=K.lt n hn; k_extra "o") (Zc (K.lt n hn))
       case v1 | v2 => k_extra "z"
     case g2 =>
      clear S
      have S:=S2
      clear S2
      refine' vp S ?h1 fun s2 S2 => ?h2
      case h1 =>
       refine' Tv.cast (Tv.or_cons (a:=false) (b:=false) (Tv.cast (Tv.cmp (da:=.typ "int") (db:=.typ "int") R0 (Ev.rd (Ev.call S.e R0 (Ev.glob G S.e ?l1 (.inr H.run.hdr.ty) (by decide)) ?l2 (xJ.cons ?l3 .nil fun _ => rfl) (zH.typeI (Z7 dr kind)))) (Ev.rd ((Ev.glob G S.e ?l4 (.inr H.int) (by decide)).mono fun _ _ e => by rw [e]; exact .typ _)) (zN.isNot rfl) rfl) (by simp)) fun _ =>
        Tv.cast (Tv.or_cons (a:=false) (b:=false) (Tv.cast (Tv.cmp (da:=.int (Z7 dr kind)) (db:=.int (Z7 dr kind)) R0 ?l5 (Ev.rd (Ev.cast (Ev.call S.e R0 (Ev.glob G S.e ?m1 (.inr hlen) (by decide)) ?m2 (xJ.cons (Ev.rd (Ev.comp1F S.e R0 ?n1 (dsrc:=.list ((yA kind).map fun n : Nat => .int n)) ?n2 (yA kind) (fun n : Nat => .int n) (zb.list _) (fun n => !yP dr n) (fun n : Nat => .int n) ?n3 ?n4 ?n5 ?n6)) .nil fun _ => rfl) (zH.lenL _ ?m3)) ?m4)) (zN.neI _ _) rfl) (by simp)) fun _ => Tv.or_nil) rfl) rfl
       case l1 => k_extra "kd"
       case l2 | l3 => k_extra "z"
       case l4 => k_extra "kd"
       case l5 => k_extra "z"
       case m1 => k_extra "kd"
       case m2 => k_extra "z"
       case m3 => rw [List.length_map,sizeLine_eq]; exact Nat.le_trans (List.length_filter_le _ _) (by k_extra "o")
       case m4 => rw [List.length_map]; rfl
       case n1 => k_extra "kd"
       case n2 => k_extra "z"
       case n3 => k_extra "kd"
       case n4 => rw [sizeLine_eq]; k_extra "o"
       case n5 => k_extra "fs"
       case n6 =>
        intro n hn env' h' M' kx hE
        refine ⟨xO.one (Tv.not (Tv.plain (M:=M') (Ev.rd (Ev.item (xs:=(List.range 16).map fun o => .bool (yP dr o)) (i:=(n : Int)) ?v1 ?v2 (by k_extra "o") (by have:=K.lt n hn; k_extra "o") (YZ (K.lt n hn)))) (yq.bool _) rfl)),fun _ => ?v3⟩
        case v1 | v2 | v3 => k_extra "z"
      case h2 =>
       refine zD ⟨(),_,_,S2.sub ?qq,trivial⟩
       case qq => k_extra "sub"
end
theorem YJ (go : Unit → D → Unit × Bool) (xs : List D) (m : Nat) (h1 : ∀ i,i < m → (go () (xs.getD i .none)).2 = true) (h2 : ∀ i,m ≤ i → i < xs.length → (go () (xs.getD i .none)).2 = false) :
  ∀ (n lo hi : Nat) (c : Unit),lo ≤ m → m ≤ hi → hi ≤ xs.length → hi - lo ≤ n → (zg go xs n lo hi c).2 = m
 | 0,lo,hi,c,a,b,_,d => by simp only [zg]; exact Nat.le_antisymm a (Nat.le_trans b (Nat.sub_eq_zero_iff_le.mp (Nat.le_zero.mp d)))
 | n + 1,lo,hi,(),a,b,e,d => by
  simp only [zg]
  split
  · rename_i hlt
    by_cases hm : (lo + hi) / 2 < m
    · rw [h1 _ hm,if_pos rfl]
      exact YJ go xs m h1 h2 n _ _ _ hm b e (kO hlt d)
    · rw [h2 _ (Nat.not_lt.mp hm) (Nat.lt_of_lt_of_le (YA hlt) e)]
      rw [if_neg (by decide)]
      exact YJ go xs m h1 h2 n _ _ _ a (Nat.not_lt.mp hm) (Nat.le_trans (Nat.le_of_lt (YA hlt)) e) (kt hlt d)
  · rename_i hn
    exact Nat.le_antisymm a (Nat.le_trans b (Nat.not_lt.mp hn))
theorem qJ (go : Unit → D → Unit × Bool) (as bs : List D) (h1 : ∀ d ∈ as,(go () d).2 = true) (h2 : ∀ d ∈ bs,(go () d).2 = false) : (zg go (as ++ bs) ((as ++ bs).length - 0) 0 (as ++ bs).length ()).2 = as.length:=by
 refine YJ go _ as.length (fun i hi => ?_) (fun i hi hl => ?_) _ _ _ _ (Nat.zero_le _) (by simp) (Nat.le_refl _) (Nat.le_refl _)
 · rw [List.getD_eq_getElem?_getD,List.getElem?_append_left hi,List.getElem?_eq_getElem hi]
   exact h1 _ (List.getElem_mem hi)
 · rw [List.length_append] at hl
   rw [List.getD_eq_getElem?_getD,List.getElem?_append_right hi,List.getElem?_eq_getElem (by k_extra "o")]
   exact h2 _ (List.getElem_mem _)
noncomputable def Kz (dr : List Nat) : List Nat:=(List.range 16).filter fun n => !yP dr n
noncomputable def Vz (dr : List Nat) : List Nat:=(List.range 16).filter fun n => yP dr n
noncomputable def wO (dr : List Nat) : List Nat:=Kz dr ++ Vz dr
theorem qk {dr : List Nat} : ∀ n ∈ wO dr,n < 16:=by
 intro n hn
 rcases List.mem_append.mp hn with h | h <;> exact List.mem_range.mp (List.mem_filter.mp h).1
theorem Jt (dr : List Nat) : ((Kz dr).length : Int) = 16 - (((List.range 16).map fun o => D.bool (yP dr o)).map jY).sum:=by
 have : ∀ (f : Nat → Bool) (l : List Nat),((l.filter fun n => !f n).length : Int) = l.length - ((l.map fun o => D.bool (f o)).map jY).sum:=by
  intro f l
  induction l with
  | nil => rfl
  | cons a l ih =>
   simp only [List.map_cons,List.sum_cons,List.length_cons,jY]
   cases h : f a
   · rw [List.filter_cons_of_pos (by simp [h]),List.length_cons,if_neg (by decide)]
     k_extra "o"
   · rw [List.filter_cons_of_neg (by simp [h]),if_pos rfl]
     k_extra "o"
 have:=this (yP dr) (List.range 16)
 rw [List.length_range] at this
 exact this
noncomputable def ltI (n : Nat) (d : D) : Bool:=match d with
 | .int b => decide ((n : Int) < b)
 | _ => false
noncomputable def gtI (n : Nat) (d : D) : Bool:=match d with
 | .int b => decide (b < (n : Int))
 | _ => false
noncomputable def qC (dr : List Nat) : List D:=dr.foldl (fun xs n => qK (fun d => !ltI n d) xs (.int n)) []
noncomputable def XW (xs : List Nat) (n : Nat) : List Nat:=xs.takeWhile (· ≤ n) ++ n :: xs.dropWhile (· ≤ n)
noncomputable def kg (dr : List Nat) : List Nat:=dr.foldl XW []
noncomputable def YG (n : Nat) : D:=.int n
theorem XM {α : Type} {p : α → Bool} {y : α} : ∀ {xs : List α},y ∈ xs.takeWhile p → p y = true
 | x :: xs,h => by
  rw [List.takeWhile_cons] at h
  cases hx : p x
  · rw [hx] at h; cases h
  · rw [hx,if_pos rfl] at h
    rcases List.mem_cons.mp h with e | h
    · rw [e]; exact hx
    · exact XM h
theorem jm {xs : List Nat} (hs : xs.Pairwise (· ≤ ·)) (p : Nat → Bool) (hp : ∀ a b,a ≤ b → p b = true → p a = true) : ∀ y ∈ xs.dropWhile p,p y = false:=by
 induction xs with
 | nil => intro y hy; cases hy
 | cons x xs ih =>
  intro y hy
  rw [List.pairwise_cons] at hs
  rw [List.dropWhile_cons] at hy
  cases hx : p x
  · rw [hx] at hy
    simp only [Bool.false_eq_true,if_false] at hy
    cases hq : p y
    · rfl
    · rcases List.mem_cons.mp hy with e | hy
      · rw [e,hx] at hq; cases hq
      · rw [hp x y (hs.1 y hy) hq] at hx; cases hx
  · rw [hx,if_pos rfl] at hy
    exact ih hs.2 y hy
theorem kE {xs : List Nat} (hs : xs.Pairwise (· ≤ ·)) (p : Nat → Bool) (hp : ∀ a b,a ≤ b → p b = true → p a = true) (go : Unit → D → Unit × Bool) (hg : ∀ n,(go () (YG n)).2 = p n) :
   (zg go (xs.map YG) ((xs.map YG).length - 0) 0 (xs.map YG).length ()).2 = (xs.takeWhile p).length:=by
 have e : xs.map YG = (xs.takeWhile p).map YG ++ (xs.dropWhile p).map YG:=by rw [← List.map_append,List.takeWhile_append_dropWhile]
 rw [e,qJ go _ _ (fun d hd => ?_) (fun d hd => ?_),List.length_map]
 · obtain ⟨n,hn,rfl⟩:=List.mem_map.mp hd
   rw [hg]
   exact XM hn
 · obtain ⟨n,hn,rfl⟩:=List.mem_map.mp hd
   rw [hg]
   exact jm hs p hp n hn
theorem Ys {xs : List Nat} (hs : xs.Pairwise (· ≤ ·)) (n : Nat) : (XW xs n).Pairwise (· ≤ ·):=by
 unfold XW
 have h1 : ∀ y ∈ xs.dropWhile (· ≤ n),n ≤ y:=fun y hy => by
   have:=jm hs (fun x => decide (x ≤ n)) (fun a b hab hb => by simp only [decide_eq_true_eq] at hb ⊢; k_extra "o") y hy
   rw [decide_eq_false_iff_not] at this
   k_extra "o"
 have h2 : ∀ y ∈ xs.takeWhile (· ≤ n),y ≤ n:=fun y hy => by
   have:=XM hy
   simpa using this
 rw [List.pairwise_append]
 refine ⟨hs.sublist (List.takeWhile_sublist _), ?_, ?_⟩
 · rw [List.pairwise_cons]
   exact ⟨h1,hs.sublist (List.dropWhile_sublist _)⟩
 · intro a ha b hb
   rcases List.mem_cons.mp hb with e | hb
   · rw [e]; exact h2 a ha
   · exact Nat.le_trans (h2 a ha) (h1 b hb)
theorem W0 (xs : List Nat) (n : Nat) : (XW xs n).Perm (n :: xs):=by
 unfold XW
 refine List.perm_middle.trans ?_
 rw [List.takeWhile_append_dropWhile]
theorem jO (dr : List Nat) (n : Nat) : kg (dr ++ [n]) = XW (kg dr) n:=by unfold kg; rw [List.foldl_append]; rfl
theorem ZG (dr : List Nat) (n : Nat) : qC (dr ++ [n]) = qK (fun d => !ltI n d) (qC dr) (.int n):=by unfold qC; rw [List.foldl_append]; rfl
theorem j9 {α : Type} {P : List α → Prop} (h0 : P []) (h1 : ∀ l a,P l → P (l ++ [a])) : ∀ l,P l:=fun l => by
 suffices h : ∀ l : List α,P l.reverse by simpa using h l.reverse
 intro l
 induction l with
 | nil => exact h0
 | cons a l ih => rw [List.reverse_cons]; exact h1 _ _ ih
theorem vf (dr : List Nat) : (kg dr).Pairwise (· ≤ ·):=j9 (P:=fun dr => (kg dr).Pairwise (· ≤ ·)) .nil (fun l a h => by rw [jO]; exact Ys h a) dr
theorem Zn (dr : List Nat) : (kg dr).Perm dr:=j9 (P:=fun dr => (kg dr).Perm dr) .nil (fun l a h => by
 rw [jO]
 refine (W0 _ _).trans ((List.Perm.cons a h).trans ?_)
 exact (List.perm_append_singleton a l).symm) dr
theorem JK {α : Type} (p : α → Bool) (xs : List α) : xs.take (xs.takeWhile p).length = xs.takeWhile p ∧ xs.drop (xs.takeWhile p).length = xs.dropWhile p:=by
 have h:=List.takeWhile_append_dropWhile (p:=p) (l:=xs)
 constructor
 · conv => lhs; arg 2; rw [← h]
   rw [List.take_left]
 · conv => lhs; arg 2; rw [← h]
   rw [List.drop_left]
theorem Zq (dr : List Nat) : qC dr = (kg dr).map YG:=j9 (P:=fun dr => qC dr = (kg dr).map YG) rfl (fun l a h => by
 rw [ZG,jO,h]
 unfold qK w7
 rw [kE (vf l) (fun x => decide (x ≤ a)) (fun x y hxy hb => by simp only [decide_eq_true_eq] at hb ⊢; k_extra "o") _ (fun n => by
  show (!decide ((a : Int) < (n : Int))) = decide (n ≤ a)
  by_cases hq : n ≤ a
  · rw [decide_eq_true hq]; rw [decide_eq_false (by k_extra "o")]; rfl
  · rw [decide_eq_false hq]; rw [decide_eq_true (by k_extra "o")]; rfl)]
 unfold XW
 rw [List.map_append,List.map_cons,← List.map_take,← List.map_drop]
 obtain ⟨e1,e2⟩:=JK (fun x => decide (x ≤ a)) (kg l)
 rw [e1,e2]; rfl) dr
theorem Qt (dr : List Nat) (n : Nat) : (zg (fun (c : Unit) d => (c,gtI n d)) (qC dr) ((qC dr).length - 0) 0 (qC dr).length ()).2 = (dr.filter fun k : Nat => decide ((k : Int) < (n : Int))).length:=by
 rw [Zq]
 rw [kE (vf dr) (fun x => decide (x < n)) (fun x y hxy hb => by simp only [decide_eq_true_eq] at hb ⊢; k_extra "o") _ (fun m => by
  show decide ((m : Int) < (n : Int)) = decide (m < n)
  by_cases hq : m < n
  · rw [decide_eq_true hq,decide_eq_true (by k_extra "o")]
  · rw [decide_eq_false hq,decide_eq_false (by k_extra "o")])]
 have e1 : (dr.filter fun k : Nat => decide ((k : Int) < (n : Int))) = dr.filter fun k : Nat => decide (k < n):=List.filter_congr fun k _ => by
  by_cases hq : k < n
  · rw [decide_eq_true hq,decide_eq_true (by k_extra "o")]
  · rw [decide_eq_false hq,decide_eq_false (by k_extra "o")]
 rw [e1,← ((Zn dr).filter _).length_eq]
 have hs:=vf dr
 generalize kg dr = xs at hs
 induction xs with
 | nil => rfl
 | cons x xs ih =>
  rw [List.pairwise_cons] at hs
  by_cases hq : x < n
  · rw [List.takeWhile_cons_of_pos (by simpa using hq),List.filter_cons_of_pos (by simpa using hq),List.length_cons,List.length_cons,ih hs.2]
  · rw [List.takeWhile_cons_of_neg (by simpa using hq),List.filter_cons_of_neg (by simpa using hq)]
    symm
    rw [List.length_nil,List.length_eq_zero_iff,List.filter_eq_nil_iff]
    intro a ha
    have:=hs.1 a ha
    simp; k_extra "o"
theorem Y2 (dr : List Nat) : (qC dr).length = dr.length:=by rw [Zq,List.length_map,(Zn dr).length_eq]
theorem Yd {dr : List Nat} : ∀ d ∈ qC dr,∃ n : Nat,d = .int n:=fun d hd => by
 rw [Zq] at hd
 obtain ⟨n,_,rfl⟩:=List.mem_map.mp hd
 exact ⟨n,rfl⟩
theorem qR : ∀ p : Fin 10,(zM p).Nodup:=by decide +kernel
theorem Qa {l : List Str} (h : l.Nodup) {n : Nat} {x : Str} (hn : l[n]? = some x) : ∀ i < n,l[i]? ≠ some x:=by
 intro i hi e
 have h1:=(List.getElem?_eq_some_iff.mp hn).1
 have:=(List.nodup_iff_pairwise_ne.mp h)
 rw [List.pairwise_iff_getElem] at this
 have h2:=this i n (by k_extra "o") h1 hi
 rw [(List.getElem?_eq_some_iff.mp hn).2,(List.getElem?_eq_some_iff.mp e).2] at h2
 exact h2 rfl
theorem vz {p n : Nat} (h : n < 16) : (zM p)[n]? = some (zG p n):=by unfold zM; rw [List.getElem?_map,List.getElem?_range h]; rfl
section
variable {prog : Program} {w : World} {A : Around} {B : Heap} {s₀ s : Shared} {Own₀ M₀ Own M : Addr → Prop} {names : zJ} {env : Env} {ρ : List (Str × RV)} {μ : List (Addr × D)} {h : Heap} {Q : Flow → Shared → Prop} {E : Value → Shared → Prop} {rest : List Stmt} {mg mb : Str → Option Value} {mN : Str → Option Value} {C N : Addr}
theorem VR (bs : List Bool) : w8 8 (.list (bs.map .bool)) = true:=by
 rw [xz,List.all_eq_true]
 intro d hd
 obtain ⟨i,_,rfl⟩:=List.mem_map.mp hd
 rfl
theorem ZX {p : Nat} {dr : List Nat} {st : xC} (Rf : Kv p dr st) {n : Nat} (hn : n < 16) : v8 st.kb.1 (st.kb.2.map .bool) (zG p n) = some (.bool (yP dr n)):=by
 rw [jb,Rf.known n hn]; rfl
theorem Jl (H : wC prog w B mg mb C N mN) (R : Rm A 5) {p : Nat} {dr : List Nat} {st : xC} (Fp : w9 p) (Rf : Kv p dr st) {Lb : Addr}
  (S : St prog w B s₀ Own₀ M₀ zL env Own M [vY dr,vK st,vA st,(Str.ofString "bag",.adr Lb),vT p,vW p,vD dr] μ s)
  (hQ : ∀ s',
   St prog w B s₀ Own₀ M₀ zL env Own M [(Str.ofString "line",.dat (.list ((wO dr).map fun n => .str (zG p n)))),vY dr,vK st,(Str.ofString "bag",.adr Lb),vT p,vW p,vD dr] μ s' →
   wpAny (model prog w) A (execs ((zC zt).drop 26) env) Q E s') :
  wpAny (model prog w) A (execs ((zC zt).drop 24) env) Q E s:=by
 have R0 : Rm A 0:=R.le (Nat.zero_le _)
 have G:=H.run.hdr.G
 have hoy : w8 8 (.list ((List.range 16).map fun o => .bool (yP dr o))) = true:=by
  have:=VR ((List.range 16).map (yP dr))
  rw [List.map_map] at this
  exact this
 have et : (zM p).map D.str = (List.range 16).map fun n => D.str (zG p n):=by unfold zM; rw [List.map_map]; rfl
 have hfew:=Rf.few
 have hask:=Rf.asked
 have hnd : (zM p).Nodup:=qR ⟨p,Fp.lt⟩
 have hkn:=fun n (hn : n < 16) => ZX Rf hn
 clear Rf Fp
 show wpAny _ _ (execs (_ :: _ :: (zC zt).drop 26) env) _ _ _
 refine' vp S ?t1 fun s2 S2 => ?t2
 case t1 =>
  refine' Tv.cast (Tv.cmp (da:=.list ((List.range 16).map fun o => .bool (yP dr o))) (db:=.list ((List.range 16).map fun o => .bool (yP dr o))) R0 (Ev.rd (Ev.bin (da:=.list []) (db:=.list ((List.range 16).map fun o => .bool (yP dr o))) S.e (Ev.rd (Ev.cast (Ev.compF S.e R0 ?a1 (dsrc:=.list (st.asked.map yI)) ?a2 st.asked yI (zb.list _) (fun y => [(Str.ofString "text",.dat (.str y.1)),(Str.ofString "told",.dat (.bool y.2))]) (fun _ => false) (fun y => .str y.1) ?a3 ?a4 ?a5 ?a6 ?a7) ?a8)) (Ev.rd (Ev.comp1 S.e R0 ?b1 (dsrc:=.list ((List.range 16).map fun n => .str (zG p n))) ?b2 (List.range 16) (fun n => .str (zG p n)) (zb.list _) (fun o => .bool (yP dr o)) ?b3 ?b4 ?b5 ?b6)) (yL.addL _ _ ?b7))) ?c1 (zN.ne hoy hoy) rfl) (by rw [yt hoy]; rfl)
  case a1 => k_extra "kd"
  case a2 => k_extra "z"
  case a3 => exact fun y _ => wD.tuple [(Str.ofString "text",_),(Str.ofString "told",_)] rfl (by decide) (by k_extra "kd") rfl
  case a4 => exact xu fun _ => by kernel_rfl
  case a5 => rw [sizeLine_eq]; k_extra "o"
  case a6 => k_extra "fs"
  case a8 => rw [List.filter_eq_nil_iff.mpr (by simp)]; rfl
  case a7 =>
   intro y hy env' h' M' kx hE
   obtain ⟨n,hn,rfl⟩:=hask y hy
   refine ⟨xO.one (Tv.cast (Tv.cmp (da:=.bool (yP dr n)) (db:=.bool (yP dr n)) R0 ?u1 (Ev.rd (Ev.item (xs:=(List.range 16).map fun o => .bool (yP dr o)) (i:=(n : Int)) ?u2 (Ev.rd (Ev.meth hE R0 ?u3 rfl F.plainAttrs_list PySem.F.slot_list_index PySem.F.type_list_index (xJ.cons ?u4 .nil fun _ => rfl) rfl (by decide) rfl (zH.index (zM p) (zG p n) n (vz hn) (Qa hnd (vz hn)) (by unfold zM; rw [List.length_map,List.length_range]; decide)))) (by k_extra "o") (by k_extra "o") (YZ hn))) (zN.isNot (b:=true) (by cases yP dr n <;> rfl)) rfl) rfl),fun hf => by cases hf⟩
   case u1 | u2 | u3 | u4 => clear hnd; k_extra "z"
  case b1 => k_extra "kd"
  case b2 => rw [← et]; clear et hnd; k_extra "z"
  case b3 => k_extra "kd"
  case b4 => rw [List.length_range,sizeLine_eq]; decide
  case b5 => k_extra "fs"
  case b7 => rw [List.length_map,List.length_range,sizeLine_eq]; decide
  case c1 => clear et hnd; k_extra "z"
  case b6 =>
   clear et hnd
   intro n hn env' h' M' kx hE
   have hn:=List.mem_range.mp hn
   refine' Ev.cast (Ev.meth hE R0 ?v1 rfl F.plainAttrs_dict F.slot_dict_get F.type_dict_get (xJ.cons ?v2 .nil fun _ => rfl) rfl (by decide) rfl (zH.dget st.kb.1 (st.kb.2.map .bool) (zG p n))) (by rw [hkn n hn]; rfl)
   case v1 | v2 => k_extra "z"
 case t2 =>
  clear S
  have S:=S2
  clear S2
  refine' yK S ?d1 ?d2 rfl ?d3
  case d2 => k_extra "kd"
  case d3 => exact fun s' S' => hQ s' (S'.sub (by k_extra "sub"))
  case d1 =>
   refine' Ev.cast (d':=.list ((wO dr).map fun n => .str (zG p n))) (Ev.bin (da:=.list ((Kz dr).map fun n => .str (zG p n))) (db:=.list ((Vz dr).map fun n => .str (zG p n))) S.e (Ev.rd (Ev.comp1F S.e R0 ?a1 (dsrc:=.list ((List.range 16).map fun n => .str (zG p n))) ?a2 (List.range 16) (fun n => .str (zG p n)) (zb.list _) (fun n => !yP dr n) (fun n => .str (zG p n)) ?a3 ?a4 ?a5 ?a6)) (Ev.rd (Ev.comp1F S.e R0 ?b1 (dsrc:=.list ((List.range 16).map fun n => .str (zG p n))) ?b2 (List.range 16) (fun n => .str (zG p n)) (zb.list _) (fun n => yP dr n) (fun n => .str (zG p n)) ?b3 ?b4 ?b5 ?b6)) (yL.addL _ _ ?b7)) ?b8
   case a1 => k_extra "kd"
   case a2 => rw [← et]; clear et hnd; k_extra "z"
   case a3 => k_extra "kd"
   case a4 => rw [List.length_range,sizeLine_eq]; decide
   case a5 => k_extra "fs"
   case b1 => k_extra "kd"
   case b2 => rw [← et]; clear et hnd; k_extra "z"
   case b3 => k_extra "kd"
   case b4 => rw [List.length_range,sizeLine_eq]; decide
   case b5 => k_extra "fs"
   case b7 =>
    rw [List.length_map,List.length_map,sizeLine_eq]
    have h1 : (Kz dr).length ≤ 16:=Nat.le_trans (List.length_filter_le _ _) (by simp)
    have h2 : (Vz dr).length ≤ 16:=Nat.le_trans (List.length_filter_le _ _) (by simp)
    k_extra "o"
   case b8 => unfold wO; rw [List.map_append]
   case a6 =>
    clear et hnd
    intro n hn env' h' M' kx hE
    have hn:=List.mem_range.mp hn
    refine ⟨xO.one (Tv.not (Tv.plain (M:=M') (Ev.rd (Ev.itemD ?v1 ?v2 (hkn n hn))) (yq.bool _) rfl)),fun _ => ?v3⟩
    case v1 | v2 | v3 => k_extra "z"
   case b6 =>
    clear et hnd
    intro n hn env' h' M' kx hE
    have hn:=List.mem_range.mp hn
    refine ⟨xO.one (Tv.plain (M:=M') (Ev.rd (Ev.itemD ?v1 ?v2 (hkn n hn))) (yq.bool _) rfl),fun _ => ?v3⟩
    case v1 | v2 | v3 => k_extra "z"
noncomputable def ji (kb : KB) (d : D) : D:=match d with
 | .str x => (v8 kb.1 (kb.2.map .bool) x).getD .none
 | _ => .none
noncomputable def ltY (one : Bool) (d : D) : Bool:=match d with
 | .bool b => !b && one
 | _ => false
noncomputable def VY (dr : List Nat) (one : Bool) : Int:=if one then (Kz dr).length else 0
theorem zAv {p : Nat} {dr : List Nat} {kb : KB} (hkn : ∀ n < 16,v8 kb.1 (kb.2.map .bool) (zG p n) = some (.bool (yP dr n))) (one : Bool) (xs : List D) (hx : xs = (wO dr).map fun n => .str (zG p n)) :
  ((zg (fun (c : Unit) d => (c,ltY one (ji kb d))) xs (xs.length - 0) 0 xs.length ()).2 : Int) = VY dr one:=by
 have hs : ∀ n < 16,ji kb (.str (zG p n)) = .bool (yP dr n):=fun n hn => by show (v8 kb.1 (kb.2.map .bool) (zG p n)).getD .none = _; rw [hkn n hn]; rfl
 cases one with
 | true =>
  have e : xs = (Kz dr).map (fun n => .str (zG p n)) ++ (Vz dr).map (fun n => .str (zG p n)):=by rw [hx]; unfold wO; rw [List.map_append]
  rw [e,qJ _ _ _ (fun d hd => ?_) (fun d hd => ?_),List.length_map]
  · rfl
  · obtain ⟨n,hn,rfl⟩:=List.mem_map.mp hd
    have hm:=List.mem_filter.mp hn
    show ltY true (ji kb _) = true
    rw [hs n (List.mem_range.mp hm.1)]
    show (!yP dr n && true) = true
    rw [hm.2]; rfl
  · obtain ⟨n,hn,rfl⟩:=List.mem_map.mp hd
    have hm:=List.mem_filter.mp hn
    show ltY true (ji kb _) = false
    rw [hs n (List.mem_range.mp hm.1)]
    show (!yP dr n && true) = false
    rw [hm.2]; rfl
 | false =>
  have:=qJ (fun (c : Unit) d => (c,ltY false (ji kb d))) [] xs (fun d hd => by cases hd) (fun d hd => ?_)
  · rw [List.nil_append] at this
    rw [this]; rfl
  · rw [hx] at hd
    obtain ⟨n,hn,rfl⟩:=List.mem_map.mp hd
    show ltY false (ji kb _) = false
    rw [hs n (qk n hn)]
    show (!yP dr n && false) = false
    rw [Bool.and_false]
theorem Qy (H : wC prog w B mg mb C N mN) (R : Rm A 5) {p : Nat} {dr : List Nat} {kb : KB} (hkn : ∀ n < 16,v8 kb.1 (kb.2.map .bool) (zG p n) = some (.bool (yP dr n)))
  {P Pr Ls Lb Le : Addr} {ps psr : Array Value} {os osr : List (Addr × Obj)} (T : Tb B mg env P (xY env)) (hOP : Own P) (hTb : yN (xY env) ps os)
  (S : St prog w B s₀ Own₀ M₀ zL env Own M [(Str.ofString "line",.dat (.list ((wO dr).map fun n => .str (zG p n)))),vY dr,(Str.ofString "known",.dat (.dct kb.1 (kb.2.map .bool))),(Str.ofString "bag",.adr Lb),vT p,vW p,vD dr] [(Le,.list []),(Lb,.list []),(Ls,za (zU p)),(P,.obs P (tabObj ps) os),(Pr,.obs Pr (tabObj psr) osr)] s)
  (hQ : ∀ ps os s',
   St prog w B s₀ Own₀ M₀ zL env Own M [(Str.ofString "bag",.adr Lb),vT p,vW p,vD dr] [(Le,.list []),(Lb,.list []),(Ls,za (zU p)),(P,.obs P (tabObj ps) os),(Pr,.obs Pr (tabObj psr) osr)] s' →
   wpAny (model prog w) A (execs ((zC zt).drop 27) env) Q E s') :
  wpAny (model prog w) A (execs ((zC zt).drop 26) env) Q E s:=by
 have R0 : Rm A 0:=R.le (Nat.zero_le _)
 have G:=H.run.hdr.G
 have hlen:=H.run.bis.len
 obtain ⟨bf,bfd,t,HB,BI⟩:=H.run.bis.left
 have hOM:=S.own P hOP
 have hPB:=S.base P hOP
 have hndS : ∀ ps' os',(([(Le,D.list []),(Lb,.list []),(Ls,za (zU p)),(P,.obs P (tabObj ps') os'),(Pr,.obs Pr (tabObj psr) osr)] : List (Addr × D)).map (·.1)).Nodup:=fun ps' os' => S.nodup
 have hcuts : w8 8 (.list [.int (VY dr false),.int (VY dr true)]) = true:=rfl
 show wpAny _ _ (execs (_ :: (zC zt).drop 27) env) _ _ _
 refine wpAny_execs_cons (wpAny_If (wpAny_isTrue_Compare1 ?qg rfl))
 refine' QD (α:=Bool) (σ:=Array Value × List (Addr × Obj)) (P:=P) (pre:=[(Le,.list []),(Lb,.list []),(Ls,za (zU p))]) (post:=[(Pr,.obs Pr (tabObj psr) osr)]) (dt:=fun c => .obs P (tabObj c.1) c.2) (c₀:=(ps,os)) (Pc:=fun _ c => yN (xY env) c.1 c.2) S hOP R0 ?c1 (dsrc:=.tup [.bool false,.bool true]) ?c2 [false,true] .bool (zb.tup _) (fun b => [(Str.ofString "one",.dat (.bool b))]) (fun b => .int (VY dr b)) ?c3 ?c4 ?c5 ?c6 hTb ?c7 ?c8
 case c1 => k_extra "kd"
 case c2 =>
  refine' Ev.tuple S.e (.cons (Ev.const_bool _ _ _) (.cons (Ev.const_bool _ _ _) .nil fun _ => rfl) fun _ => rfl) (by show 2 ≤ _; rw [sizeLine_eq]; decide)
 case c3 => exact fun y _ => wD.name (by k_extra "kd")
 case c4 => exact fun y _ x r hm => by cases List.mem_singleton.mp hm; decide +kernel
 case c5 => k_extra "fs"
 case c6 => rw [sizeLine_eq]; decide
 case c7 =>
  intro i one c env' s₁ M' E' Q' hcq hy hc hMM hE hq
  obtain ⟨ps1,os1⟩:=c
  dsimp only at hc hE hq
  have T' : Tb B mg env' P (xY env):=⟨T.gl,T.bm,by rw [hcq.1]; exact T.code,T.ap⟩
  refine' xo (f:=.ref bf) (rs:=[.dat (.list ((wO dr).map fun n => .str (zG p n))),.dat (.bool one)]) hE (Ev.glob G hE ?d1 (.inl HB.g) (by decide)) HB.keepy (.cons (r:=.dat (.list ((wO dr).map fun n => .str (zG p n)))) ?d2 (.cons (r:=.dat (.bool one)) ?d3 .nil fun _ => rfl) fun _ => rfl) rfl fun vs s₂ k₂ rs => ?d4
  case d1 => k_extra "kd"
  case d2 | d3 => clear hkn; k_extra "z"
  case d4 =>
   refine zP.use2 rs fun v1 v2 r1 r2 => ?_
   have hE2:=hE.ext (ke k₂)
   refine' Q3 T' (pre:=[(Le,.list []),(Lb,.list []),(Ls,za (zU p))]) (post:=[(Pr,.obs Pr (tabObj psr) osr)]) hE2 (hMM P hOM) hPB (hndS _ _) hc (by rw [hcq.2]; exact jM) rfl ?e1 fun kf fo kfd c' oc cl ps' os' s₃ hfd F hco hT' K hE3 rf ef => ⟨hE3.base, ?e2⟩
   case e1 => k_extra "kd"
   case e2 =>
    obtain ⟨_,hfo,hfm,hcs⟩:=rf.obs_inv
    obtain ⟨hc1,hc2⟩:=hcs (c',oc) (.head _)
    have mv : ∀ {v d},Rp prog w s₂.heap M' v d → Rp prog w s₃.heap M' v d:=fun r => by
     obtain ⟨h3,tk3,rfl,kk⟩:=ef
     exact Rp.to (fun a o m e => ⟨kk a o (fun z => m (by rw [List.mem_singleton.mp z]; exact hMM P hOM)) e,m⟩) r
    have KO : ya prog w 1 s₃.heap M' kf ((wO dr).map fun n => .str (zG p n)) (fun _ : Unit => True) (fun _ => []) (fun c d => (c,ji kb d)):=by
     refine' Zz (k:=0) (B₀:=B) F ?f1 G.lim hE3.base hfo hfd ?f2 K (wY F ?f3) ?f4 ?f5
     case f1 => k_extra "kd"
     case f2 =>
      obtain ⟨us,t',q1,q2⟩:=hco
      exact ⟨c',oc,us,t',rfl,hc1,q1,q2⟩
     case f3 =>
      intro fd v e1 e2 e3
      obtain ⟨f1,f2,f3,f4,f5,f6,f7,f8,f9,f10,f11,f12,f13,f14,f15⟩:=fd
      dsimp only at e1 e2 e3
      subst e1 e2 e3
      rfl
     case f4 => k_extra "kd"
     case f5 =>
      clear hE hE2
      intro d hd A2 env2 h2 M2 R2 hE
      obtain ⟨n,hn,rfl⟩:=List.mem_map.mp hd
      refine' Ev.cast (Ev.itemD ?v1 ?v2 (hkn n (qk n hn))) (by show _ = (v8 kb.1 (kb.2.map .bool) (zG p n)).getD .none; rw [hkn n (qk n hn)]; rfl)
      case v1 | v2 => clear hkn; k_extra "z"
    refine qD (k:=1) (τ:=Unit) (P:=fun _ => True) (J:=fun _ _ => True) (μk:=fun _ => []) (μa:=[]) (M₁:=M') (ra:=.dat (.list ((wO dr).map fun n => .str (zG p n)))) (xd:=.bool one) (hd:=.none) (args:=⟨[v1,v2],[(("key" : Str),.ref kf)]⟩) G hlen HB (ltY one) 0 ((wO dr).map fun n => D.str (zG p n)).length () (R.le (by decide)) hE3.base hE3.old (fun _ _ _ m => by cases m) hfd hfo hfm
     (by exact KO.base (fun a o e => hideAll_get _ e (by simp)) (fun _ _ m _ => m) (fun _ m => m) (fun _ m => m)) (fun _ _ _ => trivial) trivial (fun _ _ _ _ _ => trivial) (fun _ _ _ _ _ => trivial) (fun _ _ => rfl) (.inl ⟨rfl,rfl⟩) (mv r1) (fun _ _ m => by cases m) (by simp) (mv r2) .none (ZY (BI.ext hE3.base) v1 v2 (.ref kf)) ?h1 (.inl ⟨rfl,rfl⟩) (Nat.le_refl _) ?h2 fun v s₄ ef4 _ _ rv => ?h3
    case h1 => rw [List.length_map]; unfold wO; rw [List.length_append]; have a1 : (Kz dr).length ≤ 16:=Nat.le_trans (List.length_filter_le _ _) (by simp); have a2 : (Vz dr).length ≤ 16:=Nat.le_trans (List.length_filter_le _ _) (by simp); k_extra "o"
    case h2 =>
     intro c d _ hd
     obtain ⟨n,hn,rfl⟩:=List.mem_map.mp hd
     have : ji kb (.str (zG p n)) = .bool (yP dr n):=by show (v8 kb.1 (kb.2.map .bool) (zG p n)).getD .none = _; rw [hkn n (qk n hn)]; rfl
     dsimp only
     rw [this]
     exact zN.ltB _ _
    case h3 =>
     have ks:=Zt ef4
     obtain ⟨h3,tk3,rfl,kk3⟩:=ef
     obtain ⟨h4,tk4,rfl,kk4⟩:=ks
     obtain ⟨h2,tk2,rfl,kk2⟩:=k₂
     rw [zAv hkn one _ rfl] at rv
     refine hq v _ (ps',os') hT' ⟨h4,tk4,rfl,fun a o n e => kk4 a o (kk3 a o n (kk2 a o e))⟩ ((hE3.mem P _ (by simp)).ext kk4) rv
 case c8 =>
  clear hkn
  intro v c s' hc S' rv
  refine Ev.list (M:=M) (ds:=[.int (VY dr false),.int (VY dr true)]) S'.e ?k1 ?k2 s' _ _ (zR.refl _) fun b s₂ k₂ rb => ?k3
  case k1 =>
   refine .cons (Ev.const_int 0 _ _) (.cons ?m1 .nil fun _ => rfl) fun _ => rfl
   case m1 =>
    refine' Ev.cast (Ev.bin (da:=.int 16) (db:=.int ((((List.range 16).map fun o => D.bool (yP dr o)).map jY).sum)) S'.e ?m2 (Ev.rd (Ev.call S'.e (R.le (by decide : 1 ≤ 5)) (Ev.glob G S'.e ?m3 (.inr H.sum) (by decide)) (.inl fun _ e => by cases e) (xJ.cons ?m4 .nil fun _ => rfl) (zH.sum (k:=0) _ ?m5))) (yL.sub _ _)) ?m6
    case m2 => k_extra "z"
    case m3 => k_extra "kd"
    case m4 => k_extra "z"
    case m5 => exact List.all_eq_true.mpr fun d hd => by obtain ⟨k,_,rfl⟩:=List.mem_map.mp hd; rfl
    case m6 => rw [← Jt]; rfl
  case k2 => show 2 ≤ _; rw [sizeLine_eq]; decide
  case k3 =>
   refine zN.ne hcuts hcuts _ M s₂ _ _ v b (by have:=R.hu; k_extra "o") (.inl (rv.ext (ke k₂))) (.inl rb) fun s₃ k₃ => wpAny_truthy_bool ?_
   rw [yt hcuts]
   refine zD ?_
   exact hQ c.1 c.2 s₃ ((S'.step (zA k₂ k₃)).sub (by k_extra "sub"))
end
noncomputable def jl (s sub : Str) (hi limit : Nat) (r : Array Nat × Nat) (i : Nat) : Array Nat × Nat :=
 if (decide (r.1.size < limit) && decide (r.2 ≤ i) && decide (i + sub.length ≤ hi) && Builtin.Str.subAt s sub i) = true then (r.1.push i,i + sub.length) else r
theorem YN (s sub : Str) (hi limit : Nat) (acc : Array Nat) (free i : Nat) : jl s sub hi limit (acc,free) i = if (decide (acc.size < limit) && decide (free ≤ i) && decide (i + sub.length ≤ hi) && Builtin.Str.subAt s sub i) = true then (acc.push i,i + sub.length) else (acc,free):=rfl
theorem Kr (s sub : Str) (lo hi limit : Nat) : Builtin.Str.occurrences s sub lo hi limit = ((List.range' lo (hi + 1 - lo)).foldl (jl s sub hi limit) (#[],lo)).1.toList:=by
 unfold Builtin.Str.occurrences
 have e : ∀ (l : List Nat) (r : Array Nat × Nat),(forIn l r (fun i r => if (decide (r.1.size < limit) && decide (r.2 ≤ i) && decide (i + sub.length ≤ hi) && Builtin.Str.subAt s sub i) = true then pure (ForInStep.yield (r.1.push i,i + sub.length)) else pure (ForInStep.yield (r.1,r.2))) : Id (Array Nat × Nat)) = l.foldl (jl s sub hi limit) r:=by
  intro l
  induction l with
  | nil => intro r; rfl
  | cons i l ih =>
   intro r
   rw [List.forIn_cons,List.foldl_cons]
   unfold jl
   by_cases hc : (decide (r.1.size < limit) && decide (r.2 ≤ i) && decide (i + sub.length ≤ hi) && Builtin.Str.subAt s sub i) = true
   · rw [if_pos hc,if_pos hc]; exact ih _
   · rw [if_neg hc,if_neg hc]; exact ih _
 dsimp only
 rw [_root_.Std.Legacy.Range.forIn_eq_forIn_range']
 show Array.toList (Prod.fst (forIn _ _ _ : Id _)) = _
 rw [e]
 congr 4
 show (hi + 1 - lo + 1 - 1) / 1 = _
 simp
noncomputable def wH (sub : List Nat) (m hi limit : Nat) : Nat → List Nat → Nat → Nat → List Nat
 | i,[],n,free => if (decide (n < limit) && decide (free ≤ i) && decide (i + m ≤ hi) && sub.isPrefixOf []) = true then [i] else []
 | i,c :: rest,n,free => if (decide (n < limit) && decide (free ≤ i) && decide (i + m ≤ hi) && sub.isPrefixOf (c :: rest)) = true then i :: wH sub m hi limit (i + 1) rest (n + 1) (i + m) else wH sub m hi limit (i + 1) rest n free
theorem wi (s sub : Str) (i : Nat) (h : i + sub.length ≤ s.length) : Builtin.Str.subAt s sub i = sub.cps.toList.isPrefixOf (s.cps.toList.drop i):=by
 unfold Builtin.Str.subAt
 have hl : sub.length = sub.cps.toList.length:=by simp [Str.length]
 have hs : s.length = s.cps.toList.length:=by simp [Str.length]
 have e : (s.cps.extract i (i + sub.length)).toList = (s.cps.toList.drop i).take sub.cps.toList.length:=by
   rw [Array.toList_extract,hl]
   simp [List.extract]
 rw [Bool.eq_iff_iff,beq_iff_eq,List.isPrefixOf_iff_prefix]
 constructor
 · intro q
   have q2:=congrArg Array.toList q
   rw [e] at q2
   rw [← q2]
   exact List.take_prefix _ _
 · intro q
   apply Array.ext'
   rw [e]
   exact (List.prefix_iff_eq_take.mp q).symm
theorem jG (s sub : Str) (hi limit : Nat) (hh : hi ≤ s.length) : ∀ (rest : List Nat) (i n : Nat) (acc : Array Nat) (free : Nat),s.cps.toList.drop i = rest → i ≤ s.length → acc.size = n →
  ((List.range' i (rest.length + 1)).foldl (jl s sub hi limit) (acc,free)).1.toList = acc.toList ++ wH sub.cps.toList sub.length hi limit i rest n free
 | [],i,n,acc,free,hr,hi',hn => by
  rw [show ([] : List Nat).length + 1 = 1 from rfl,List.range'_one,List.foldl_cons,List.foldl_nil]
  rw [YN,wH]
  by_cases hc : i + sub.length ≤ hi
  · rw [wi s sub i (by omega),hr,hn]
    split <;> simp
  · simp [hc]
 | c :: rest,i,n,acc,free,hr,hi',hn => by
  have hlt : i < s.length:=by
    have:=congrArg List.length hr
    rw [List.length_drop,List.length_cons] at this
    have hs : s.length = s.cps.toList.length:=by simp [Str.length]
    omega
  have hr' : s.cps.toList.drop (i + 1) = rest:=by rw [← List.drop_drop,hr]; rfl
  rw [List.length_cons,List.range'_succ,List.foldl_cons,wH,YN]
  by_cases hc : i + sub.length ≤ hi
  · rw [wi s sub i (by omega),hr,hn]
    split
    · rw [jG s sub hi limit hh rest (i + 1) (n + 1) _ _ hr' (by omega) (by rw [Array.size_push,hn])]
      simp
    · exact jG s sub hi limit hh rest (i + 1) n _ _ hr' (by omega) hn
  · have h1 : (decide (acc.size < limit) && decide (free ≤ i) && decide (i + sub.length ≤ hi) && Builtin.Str.subAt s sub i) = false:=by simp [hc]
    have h2 : (decide (n < limit) && decide (free ≤ i) && decide (i + sub.length ≤ hi) && sub.cps.toList.isPrefixOf (c :: rest)) = false:=by simp [hc]
    rw [h1,h2,if_neg (by decide),if_neg (by decide)]
    exact jG s sub hi limit hh rest (i + 1) n _ _ hr' (by omega) hn
theorem jg (s sub : Str) (hi limit : Nat) : ∀ (l : List Nat) (r : Array Nat × Nat),(∀ i ∈ l,hi < i) → l.foldl (jl s sub hi limit) r = r
 | [],_,_ => rfl
 | i :: l,r,h => by
  rw [List.foldl_cons]
  have : jl s sub hi limit r i = r:=by
   unfold jl
   have:=h i (.head _)
   rw [if_neg]
   simp; intros; omega
  rw [this]
  exact jg s sub hi limit l r fun j hj => h j (.tail _ hj)
theorem kX (s sub : Str) (lo hi limit : Nat) (hh : hi ≤ s.length) (hl : lo ≤ s.length) : Builtin.Str.occurrences s sub lo hi limit = wH sub.cps.toList sub.length hi limit lo (s.cps.toList.drop lo) 0 lo:=by
 rw [Kr]
 have h:=jG s sub hi limit hh (s.cps.toList.drop lo) lo 0 #[] lo rfl hl rfl
 rw [List.nil_append] at h
 rw [← h]
 have hs : s.length = s.cps.toList.length:=by simp [Str.length]
 rw [List.length_drop,← hs]
 have e : List.range' lo (s.length - lo + 1) = List.range' lo (hi + 1 - lo) ++ List.range' (lo + (hi + 1 - lo)) (s.length - lo + 1 - (hi + 1 - lo)):=by
  rw [List.range'_append_1]
  congr 1
  exact (Nat.add_sub_of_le (Nat.le_trans (Nat.sub_le_sub_right (Nat.succ_le_succ hh) lo) (Nat.le_of_eq (Nat.succ_sub hl)))).symm
 rw [e,List.foldl_append,jg s sub hi limit (List.range' (lo + (hi + 1 - lo)) _)]
 intro i hi2
 rw [List.mem_range'_1] at hi2
 omega
noncomputable def XE (got w : List Nat) (st en : Nat) : Option Nat:=(wH w w.length en 1 st (got.drop st) 0 st).head?
noncomputable def Xy (got : List Nat) : List (List Nat) → Nat → Nat → Bool
 | [],_,_ => true
 | w :: ws,st,en => match XE got w st en with
  | none => false
  | some p => Xy got ws (p + w.length) en
noncomputable def WA (got : List Nat) (ws : List (List Nat)) (st en : Nat) : Bool:=if en < st then false else Xy got ws st en
noncomputable def JE (got : List Nat) (ws : List (List Nat)) (st : Nat) : Bool :=
 if (ws.getLastD []).length ≠ 0 then (if (decide ((ws.getLastD []).length ≤ got.length) && (ws.getLastD []).isPrefixOf (got.drop (got.length - (ws.getLastD []).length))) = true then WA got ws.dropLast st (got.length - (ws.getLastD []).length) else false) else WA got ws st got.length
noncomputable def Km (ws : List (List Nat)) (got : List Nat) : Bool :=
 if (ws.headD []).length ≠ 0 then (if (decide ((ws.headD []).length ≤ got.length) && (ws.headD []).isPrefixOf got) = true then JE got ws.tail (ws.headD []).length else false) else JE got ws 0
noncomputable abbrev y0 (x : Str) : List Nat:=x.cps.toList
theorem yF (x : Str) : (y0 x).length = x.length:=by simp [y0,Str.length]
theorem qj (sub : List Nat) (m hi limit : Nat) : ∀ (rest : List Nat) (i n free : Nat),∀ x ∈ wH sub m hi limit i rest n free,x + m ≤ hi
 | [],i,n,free => by
  intro x hx
  rw [wH] at hx
  split at hx
  · rename_i h
    simp only [Bool.and_eq_true,decide_eq_true_eq] at h
    rw [List.mem_singleton.mp hx]; exact h.1.2
  · cases hx
 | c :: rest,i,n,free => by
  intro x hx
  rw [wH] at hx
  split at hx
  · rename_i h
    simp only [Bool.and_eq_true,decide_eq_true_eq] at h
    rcases List.mem_cons.mp hx with e | hx
    · rw [e]; exact h.1.2
    · exact qj sub m hi limit rest _ _ _ x hx
  · exact qj sub m hi limit rest _ _ _ x hx
theorem VM (got w : Str) (st en : Nat) (h1 : st ≤ en) (h2 : en ≤ got.length) : kj got w (st : Int) (en : Int) = match XE (y0 got) (y0 w) st en with | some p => (p : Int) | none => -1:=by
 unfold kj XE
 have e1 : (max 0 (if (st : Int) < 0 then (st : Int) + got.length else (st : Int))).toNat = st:=by rw [if_neg (Wt st),Kp,Int.toNat_natCast]
 have e2 : (min (max 0 (if (en : Int) < 0 then (en : Int) + got.length else (en : Int))).toNat got.length) = en:=by rw [if_neg (Wt en),Kp,Int.toNat_natCast,Nat.min_eq_left h2]
 rw [e1,e2,kX got w st en 1 h2 (Nat.le_trans h1 h2),yF]
 cases wH w.cps.toList w.length en 1 st (got.cps.toList.drop st) 0 st <;> rfl
theorem ZI (got : Str) : ∀ (ws : List Str) (st en : Nat),st ≤ en → en ≤ got.length → xK got ws (st : Int) (en : Int) = Xy (y0 got) (ws.map y0) st en
 | [],_,_,_,_ => rfl
 | w :: ws,st,en,h1,h2 => by
  rw [List.map_cons,xK,Xy,VM got w st en h1 h2]
  cases hf : XE (y0 got) (y0 w) st en with
  | none => rfl
  | some p =>
   have hp0 : ¬ ((p : Int) < 0):=Int.not_lt.mpr (Int.natCast_nonneg p)
   show (if ((p : Int) < 0) then false else xK got ws ((p : Int) + w.length) en) = _
   rw [if_neg hp0]
   have hp : p + w.length ≤ en:=by
    unfold XE at hf
    have:=qj _ _ _ _ _ _ _ _ p (List.mem_of_mem_head? hf)
    rw [yF] at this
    exact this
   rw [yF]
   exact ZI got ws (p + w.length) en hp h2
theorem Zh (got : Str) (ws : List Str) (st en : Nat) (h2 : en ≤ got.length) : ye got ws (st : Int) (en : Int) = WA (y0 got) (ws.map y0) st en:=by
 unfold ye WA
 by_cases h : en < st
 · rw [if_pos h,if_pos (by omega)]
 · rw [if_neg h,if_neg (by omega)]
   exact ZI got ws st en (by omega) h2
theorem VD (ws : List Str) : (ws.map y0).headD [] = y0 (ws.headD Str.empty):=by cases ws <;> rfl
theorem VE (ws : List Str) : (ws.map y0).getLastD [] = y0 (ws.getLastD Str.empty):=by
 cases ws with
 | nil => rfl
 | cons w ws =>
  rw [List.map_cons,List.getLastD_cons,List.getLastD_cons]
  induction ws generalizing w with
  | nil => rfl
  | cons v ws ih => rw [List.map_cons,List.getLastD_cons,List.getLastD_cons]; exact ih v
theorem YW (got : Str) (ws : List Str) (st : Nat) : xH got ws (st : Int) = JE (y0 got) (ws.map y0) st:=by
 unfold xH JE
 rw [VE,yF,yF]
 dsimp only
 generalize ws.getLastD Str.empty = w
 by_cases h : w.length ≠ 0
 · rw [if_pos h,if_pos h]
   by_cases hl : w.length ≤ got.length
   · rw [wi got w (got.length - w.length) (by omega),Nat.zero_add]
     split
     · rw [← List.map_dropLast]
       have e : ((got.length : Int) - (w.length : Int)) = ((got.length - w.length : Nat) : Int):=by omega
       rw [e]
       exact Zh got _ st _ (by omega)
     · rfl
   · have a1 : (decide (0 + w.length ≤ got.length) && Builtin.Str.subAt got w (got.length - w.length)) = false:=by rw [Nat.zero_add]; simp [hl]
     have a2 : (decide (w.length ≤ got.length) && (y0 w).isPrefixOf ((y0 got).drop (got.length - w.length))) = false:=by simp [hl]
     rw [a1,a2]; rfl
 · rw [if_neg h,if_neg h]
   exact Zh got ws st _ (Nat.le_refl _)
theorem QX {want got : Str} (hi : inS zT want = true) : wZ want got = Km ((zz want zT).map y0) (y0 got):=by
 unfold wZ Km
 rw [if_pos hi,VD,yF,yF]
 dsimp only
 generalize zz want zT = ws
 generalize hw : ws.headD Str.empty = w
 by_cases h : w.length ≠ 0
 · rw [if_pos h,if_pos h]
   by_cases hl : w.length ≤ got.length
   · rw [wi got w 0 (by omega),Nat.zero_add,List.drop_zero]
     split
     · rw [← List.map_tail]
       exact YW got _ _
     · rfl
   · have a1 : (decide (0 + w.length ≤ got.length) && Builtin.Str.subAt got w 0) = false:=by rw [Nat.zero_add]; simp [hl]
     have a2 : (decide (w.length ≤ got.length) && (y0 w).isPrefixOf (y0 got)) = false:=by simp [hl]
     rw [a1,a2]; rfl
 · rw [if_neg h,if_neg h]
   exact YW got ws 0
noncomputable def XH (x y : List Nat) : List Nat:=wH y y.length x.length (x.length + 1) 0 x 0 0
noncomputable def jS (x y : List Nat) : List (List Nat) :=
 if (XH x y).isEmpty = true then [x] else ((0 :: (XH x y).map (· + y.length)).zip ((XH x y) ++ [x.length])).map fun p => (x.drop p.1).take (p.2 - p.1)
theorem Xv (want : Str) : inS zT want = !(wH (y0 zT) 3 (y0 want).length 1 0 (y0 want) 0 0).isEmpty:=by
 unfold inS
 rw [kX want zT 0 want.length 1 (Nat.le_refl _) (Nat.zero_le _),yF]
 rfl
theorem JJ (x : Str) : ¬ Builtin.Str.strKind x < Builtin.Str.strKind zT:=by
 have : Builtin.Str.strKind zT = 1:=by decide +kernel
 rw [this]
 unfold Builtin.Str.strKind
 split
 · decide
 · split <;> decide
theorem j0 (x : Str) : (zz x zT).map y0 = jS (y0 x) (y0 zT):=by
 have ho : Builtin.Str.occurrences x zT 0 x.length (x.length + 1) = XH (y0 x) (y0 zT):=by
   rw [kX x zT 0 x.length _ (Nat.le_refl _) (Nat.zero_le _)]
   unfold XH
   rw [yF,yF]; rfl
 unfold zz jS
 rw [ho]
 by_cases h1 : (decide (x.length < zT.length) || decide (Builtin.Str.strKind x < Builtin.Str.strKind zT)) = true
 · rw [if_pos h1]
   have hlt : x.length < zT.length:=by
     rw [decide_eq_false (JJ x),Bool.or_false,decide_eq_true_eq] at h1
     exact h1
   have : XH (y0 x) (y0 zT) = []:=by
     cases hq : XH (y0 x) (y0 zT) with
     | nil => rfl
     | cons a l =>
      unfold XH at hq
      have:=qj _ _ _ _ _ _ _ _ a (by rw [hq]; exact .head _)
      rw [yF,yF] at this
      omega
   rw [this]; rfl
 · rw [if_neg h1]
   split
   · rfl
   · unfold Builtin.Str.partsBetween
     rw [List.map_map,yF,yF]
     refine List.map_congr_left fun p _ => ?_
     obtain ⟨i,j⟩:=p
     show (x.cps.extract i j).toList = _
     rw [Array.toList_extract]
noncomputable def vh : List Nat:=[46,46,46]
theorem ww : y0 zT = vh:=by decide +kernel
theorem Yu : y0 xE = vh:=by decide +kernel
theorem yW (x y : Str) : y0 (x ++ y) = y0 x ++ y0 y:=by show (x.cps ++ y.cps).toList = _; rw [Array.toList_append]
theorem Q7 {x y : Str} (h : y0 x = y0 y) : x = y:=by
 cases x; cases y; congr 1; exact Array.ext' h
noncomputable def inF (want : List Nat) : Bool:=!(wH vh 3 want.length 1 0 want 0 0).isEmpty
noncomputable def VK (want got : List Nat) : Bool:=if inF want = true then Km (jS want vh) got else decide (want = got)
theorem Wb (want got : Str) : wZ want got = VK (y0 want) (y0 got):=by
 have hi:=Xv want
 rw [ww] at hi
 unfold VK inF
 rw [← hi]
 by_cases h : inS zT want = true
 · rw [if_pos h,QX h,j0,ww]
 · rw [if_neg h]
   unfold wZ
   rw [if_neg h]
   by_cases q : want = got
   · subst q; simp
   · rw [beq_eq_false_iff_ne.mpr q,decide_eq_false fun e => q (Q7 e)]
noncomputable def vQ (want : List Nat) : Bool:=decide (want.length ≤ 1000) && (decide (2 ≤ (jS want vh).length) || !inF want) && decide ((jS want vh).length ≤ 1000) && (jS want vh).all fun x => decide (x.length ≤ 1000)
theorem jQ (want : Str) : xQ want = vQ (y0 want):=by
 have hi:=Xv want
 rw [ww] at hi
 unfold xQ vQ inF
 rw [← hi,← ww,← j0,List.length_map,List.all_map,yF]
 simp only [Function.comp_def,yF]
noncomputable def J5 : List (List Nat):=[[79,80,84,73,77,73,90,69,68],[78,69,87,76,79,67,65,76,83],[86,65,82,65,82,71,83],[86,65,82,75,69,89,87,79,82,68,83],[78,69,83,84,69,68],[71,69,78,69,82,65,84,79,82],[78,79,70,82,69,69],[67,79,82,79,85,84,73,78,69],[73,84,69,82,65,66,76,69,95,67,79,82,79,85,84,73,78,69],[65,83,89,78,67,95,71,69,78,69,82,65,84,79,82],[48,120,52,48,48],[48,120,56,48,48],[48,120,49,48,48,48]]
theorem Qn : xR.map y0 = J5:=by decide +kernel
noncomputable def ZF (p k : Nat) : List Nat:=(J5.drop p).getD k []
noncomputable def vB (p n : Nat) : List Nat:=if n = 0 then [32,48,120,48,44] else (((List.range 4).filter fun k => n.testBit k).map fun k => 32 :: (ZF p k ++ [44])).flatten
noncomputable def Vl (p n : Nat) : List Nat:=((List.range 4).map fun k => if n.testBit k then 32 :: (ZF p k ++ [44]) else vh).flatten
theorem VH : ∀ p : Fin 10,∀ n : Fin 16,decide (y0 (zG p n) = vB p n) = true:=by decide +kernel
theorem VQ : ∀ p : Fin 10,∀ n : Fin 16,decide (y0 (kW p n) = Vl p n) = true:=by decide +kernel
theorem vj {p n : Nat} (hp : p < 10) (hn : n < 16) : y0 (zG p n) = vB p n:=of_decide_eq_true (VH ⟨p,hp⟩ ⟨n,hn⟩)
theorem QR {p n : Nat} (hp : p < 10) (hn : n < 16) : y0 (kW p n) = Vl p n:=of_decide_eq_true (VQ ⟨p,hp⟩ ⟨n,hn⟩)
theorem Yi {p k : Nat} (hk : k < 4) : y0 ((zk p).getD k eS) = ZF p k:=by
 unfold ZF zk
 rw [← Qn,← List.map_drop]
 rw [List.getD_eq_getElem?_getD,List.getD_eq_getElem?_getD,List.getElem?_take_of_lt hk,List.getElem?_map]
 cases (List.drop p xR)[k]? with
 | none => show y0 eS = []; decide +kernel
 | some x => rfl
noncomputable def wQ (p j k : Nat) : Str:=zv ++ (zk p).getD j eS ++ Str.ofString ",... " ++ (zk p).getD k eS ++ xq
noncomputable def jn (p j k : Nat) : List Nat:=[32] ++ ZF p j ++ [44,46,46,46,32] ++ ZF p k ++ [44]
theorem Vh {p j k : Nat} (hj : j < 4) (hk : k < 4) : y0 (wQ p j k) = jn p j k:=by
 unfold wQ jn
 rw [yW,yW,yW,yW,Yi hj,Yi hk]
 have e1 : y0 zv = [32]:=by decide +kernel
 have e2 : y0 xq = [44]:=by decide +kernel
 have e3 : y0 (Str.ofString ",... ") = [44,46,46,46,32]:=by decide +kernel
 rw [e1,e2,e3]
noncomputable def Kh (j k : Nat) : Int:=Builtin.bitOr (1 * 2 ^ j) (1 * 2 ^ k)
noncomputable def X7 (p j : Nat) : Str:=zG p (2 ^ j) ++ xE ++ zG p (2 ^ j)
theorem X3 : ∀ j k : Fin 4,(decide (0 ≤ Kh j k) && decide (Kh j k < 16) && decide ((2 : Nat) ^ (j : Nat) < 16)) = true:=by decide
theorem Q6 : ∀ p : Fin 10,∀ j k : Fin 4,(vQ (vh ++ jn p j k ++ vh) && vQ (jn p j k) && (VK (vh ++ jn p j k ++ vh) (vB p (Kh j k).toNat) == decide ((j : Nat) < (k : Nat))) && (VK (jn p j k) (vB p 15) == (decide ((j : Nat) = 0) && decide ((k : Nat) = 3))) && decide ((jn p j k).length ≤ 900)) = true:=by decide +kernel
theorem Ja : ∀ p : Fin 10,∀ j : Fin 4,(vQ (vB p (2 ^ (j : Nat)) ++ vh ++ vB p (2 ^ (j : Nat))) && !VK (vB p (2 ^ (j : Nat)) ++ vh ++ vB p (2 ^ (j : Nat))) (vB p (2 ^ (j : Nat)))) = true:=by decide +kernel
structure zAZ (p j k : Nat) : Prop where
 or0 : 0 ≤ Kh j k
 or16 : Kh j k < 16
 fit1 : xQ (xE ++ wQ p j k ++ xE) = true
 fit2 : xQ (wQ p j k) = true
 ell1 : wZ (xE ++ wQ p j k ++ xE) (zG p (Kh j k).toNat) = decide ((j : Int) < (k : Int))
 ell2 : wZ (wQ p j k) (zG p 15) = (((j : Int) == 0) && ((k : Int) == 3))
 len : (wQ p j k).length ≤ 900
theorem Wy {p j k : Nat} (hp : p < 10) (hj : j < 4) (hk : k < 4) : zAZ p j k:=by
 have h1:=X3 ⟨j,hj⟩ ⟨k,hk⟩
 have h2:=Q6 ⟨p,hp⟩ ⟨j,hj⟩ ⟨k,hk⟩
 simp only [Bool.and_eq_true,decide_eq_true_eq,beq_iff_eq] at h1 h2
 obtain ⟨⟨h1a,h1b⟩,_⟩:=h1
 obtain ⟨⟨⟨⟨g1,g2⟩,g3⟩,g4⟩,g5⟩:=h2
 have e:=Vh (p:=p) hj hk
 have e' : y0 (xE ++ wQ p j k ++ xE) = vh ++ jn p j k ++ vh:=by rw [yW,yW,Yu,e]
 refine ⟨h1a,h1b,by rw [jQ,e']; exact g1,by rw [jQ,e]; exact g2, ?_, ?_, ?_⟩
 · rw [Wb,e',vj hp (by omega),g3]
   by_cases q : j < k
   · rw [decide_eq_true q,decide_eq_true (by omega)]
   · rw [decide_eq_false q,decide_eq_false (by omega)]
 · rw [Wb,e,vj hp (by decide),g4]
   have : ∀ a b : Nat,decide (a = b) = ((a : Int) == (b : Int)):=fun a b => by
     by_cases q : a = b
     · subst q; simp
     · rw [decide_eq_false q]; symm; rw [beq_eq_false_iff_ne]; omega
   rw [this j 0,this k 3]; rfl
 · rw [← yF,e]; exact g5
theorem VL {p j : Nat} (hp : p < 10) (hj : j < 4) : xQ (X7 p j) = true ∧ wZ (X7 p j) (zG p (2 ^ j)) = false ∧ 2 ^ j < 16:=by
 have h1:=X3 ⟨j,hj⟩ ⟨0,by decide⟩
 have h2:=Ja ⟨p,hp⟩ ⟨j,hj⟩
 simp only [Bool.and_eq_true,decide_eq_true_eq,Bool.not_eq_true'] at h1 h2
 have e : y0 (X7 p j) = vB p (2 ^ j) ++ vh ++ vB p (2 ^ j):=by unfold X7; rw [yW,yW,Yu,vj hp h1.2]
 exact ⟨by rw [jQ,e]; exact h2.1,by rw [Wb,e,vj hp h1.2]; exact h2.2,h1.2⟩
theorem yd (a b : Nat) : Builtin.bitAnd (a : Int) (b : Int) = ((a &&& b : Nat) : Int):=by
 rw [bitAnd_pp (Int.natCast_nonneg a) (Int.natCast_nonneg b),Int.toNat_natCast,Int.toNat_natCast]
noncomputable def oN (k d : Nat) : Nat:=d + (if 0 < k then 64 else 0) + (if k % 2 = 0 then 128 else 0)
theorem Kb : ∀ k : Fin 4,∀ d : Fin 64,(decide (oN k d < 256) && decide ((oN k d) &&& 63 = d) && (decide ((oN k d) &&& 64 = 0) == decide (k.val = 0))) = true:=by decide +kernel
noncomputable def Vd (m k : Nat) : Nat:=m / 64 ^ k % 64
theorem vI (m k : Nat) : Vd m k < 64:=Nat.mod_lt _ (by decide)
theorem oF {k d : Nat} (hk : k < 4) (hd : d < 64) : oN k d < 256 ∧ oN k d &&& 63 = d ∧ (oN k d &&& 64 = 0 ↔ k = 0):=by
 have h:=Kb ⟨k,hk⟩ ⟨d,hd⟩
 simp only [Bool.and_eq_true,decide_eq_true_eq,beq_iff_eq,decide_eq_decide] at h
 exact ⟨h.1.1,h.1.2,h.2⟩
noncomputable def Y4 (m k : Nat) : UInt8:=(oN k (Vd m k)).toUInt8
noncomputable def qB (m : Nat) : Nat → List UInt8
 | 0 => [Y4 m 0]
 | k + 1 => Y4 m (k + 1) :: qB m k
theorem jE {m k : Nat} (hk : k < 4) : (Y4 m k).toNat = oN k (Vd m k):=by
 unfold Y4
 rw [UInt8.toNat_ofNat']
 exact Nat.mod_eq_of_lt (oF hk (vI m k)).1
theorem wV (m k : Nat) : (qB m k).length = k + 1:=by
 induction k with
 | zero => rfl
 | succ k ih => rw [qB,List.length_cons,ih]
theorem jt {b : Array UInt8} {i : Nat} {x : UInt8} {r : List UInt8} (h : b.toList.drop i = x :: r) : b[i]? = some x ∧ b.toList.drop (i + 1) = r:=by
 constructor
 · rw [← Array.getElem?_toList]
   have:=congrArg List.head? h
   rw [List.head?_drop] at this
   exact this
 · rw [← List.tail_drop,h]; rfl
theorem Kq {v d : Nat} (hd : d < 64) : Builtin.bitOr ((v : Int) * 2 ^ (6 : Int).toNat) (d : Int) = ((v * 64 + d : Nat) : Int):=by
 rw [bitOr_and]
 have e : (v : Int) * 2 ^ (6 : Int).toNat = ((2 ^ 6 * v : Nat) : Int):=by
  rw [Int.natCast_mul,Int.mul_comm]; rfl
 rw [e,yd]
 have h:=Nat.two_pow_add_eq_or_of_lt (i:=6) (b:=d) hd v
 have : 2 ^ 6 * v &&& d = 0:=by
  apply Nat.eq_of_testBit_eq
  intro j
  rw [Nat.testBit_and,Nat.zero_testBit,Nat.testBit_two_pow_mul]
  by_cases hj : 6 ≤ j
  · rw [Nat.testBit_lt_two_pow (Nat.lt_of_lt_of_le hd (show 2 ^ 6 ≤ 2 ^ j from Nat.pow_le_pow_right (by decide) hj) : d < 2 ^ j),Bool.and_false]
  · rw [decide_eq_false hj]; rfl
 rw [this]
 have : (2 ^ 6 : Nat) = 64:=rfl
 rw [this]
 omega
theorem Xx (m k : Nat) : m % 64 ^ (k + 1) = Vd m k * 64 ^ k + m % 64 ^ k:=by
 rw [Nat.pow_succ,Nat.mod_mul,Vd,Nat.mul_comm,Nat.add_comm]
theorem WU {b : Array UInt8} {m : Nat} {r : List UInt8} : ∀ (k n v i : Nat),k < 4 → k < n → b.toList.drop i = (qB m k).drop 1 ++ r → wo b n (oN k (Vd m k) : Nat) v i = some (((v * 64 ^ k + m % 64 ^ k : Nat) : Int),i + k)
 | 0,n + 1,v,i,_,_,_ => by
  rw [ym,show ((64 : Int)) = ((64 : Nat) : Int) from rfl,yd,((oF (k:=0) (by decide) (vI m 0)).2.2).mpr rfl,if_neg (by decide)]
  simp [Nat.mod_one]
 | k + 1,n + 1,v,i,hk,hn,hd => by
  have hd' : b.toList.drop i = Y4 m k :: ((qB m k).drop 1 ++ r):=by
    rw [hd]; cases k <;> rfl
  obtain ⟨h1,h2⟩:=jt hd'
  rw [ym,show ((64 : Int)) = ((64 : Nat) : Int) from rfl,yd,if_pos]
  · rw [h1]
    dsimp only
    rw [jE (by omega),show ((63 : Int)) = ((63 : Nat) : Int) from rfl,yd,(oF (by omega) (vI m k)).2.1,Kq (vI m k),WU k n _ (i + 1) (by omega) (by omega) h2]
    have e : (v * 64 + Vd m k) * 64 ^ k + m % 64 ^ k = v * 64 ^ (k + 1) + m % 64 ^ (k + 1):=by
     rw [Xx,Nat.pow_succ,Nat.add_mul,Nat.mul_assoc v 64,Nat.mul_comm 64]; omega
    rw [e,Nat.add_assoc i,Nat.add_comm 1 k]
  · have h:=mt (oF hk (vI m (k + 1))).2.2.mp (by omega)
    simp only [bne_iff_ne,ne_eq]
    exact_mod_cast h
theorem Wz {b : Array UInt8} {m i k : Nat} {r : List UInt8} (hk : k < 4) (hm : m < 64 ^ (k + 1)) (hd : b.toList.drop i = qB m k ++ r) : wB b i = some ((m : Int),i + (k + 1)):=by
 have hd' : b.toList.drop i = Y4 m k :: ((qB m k).drop 1 ++ r):=by
  rw [hd]; cases k <;> rfl
 obtain ⟨h1,h2⟩:=jt hd'
 have hl:=congrArg List.length hd
 rw [List.length_drop,List.length_append,wV,Array.length_toList] at hl
 rw [wB,h1]
 dsimp only
 rw [jE hk,show ((63 : Int)) = ((63 : Nat) : Int) from rfl,yd,(oF hk (vI m k)).2.1,WU k _ _ (i + 1) hk (Q0 hl) h2,← Xx,Nat.mod_eq_of_lt hm,Nat.add_assoc,Nat.add_comm 1 k]
theorem Vm {b : Array UInt8} {m : Nat} : ∀ (k n : Nat) (v : Int) (i : Nat),k + 1 < 4 → b.toList.drop i = (qB m k).dropLast → wo b n (oN (k + 1) (Vd m (k + 1)) : Nat) v i = none
 | _,0,_,_,_,_ => rfl
 | k,n + 1,v,i,hk,hd => by
  rw [ym,show ((64 : Int)) = ((64 : Nat) : Int) from rfl,yd,if_pos]
  · cases k with
    | zero =>
     have : b.toList.drop i = []:=hd
     rw [show b[i]? = none from by rw [← Array.getElem?_toList,← List.head?_drop,this]; rfl]
    | succ k =>
     have hd' : b.toList.drop i = Y4 m (k + 1) :: (qB m k).dropLast:=by
      rw [hd,qB,List.dropLast_cons_of_ne_nil]
      intro e; have:=congrArg List.length e; rw [wV] at this; cases this
     obtain ⟨h1,h2⟩:=jt hd'
     rw [h1]
     dsimp only
     rw [jE (by omega)]
     exact Vm k n _ (i + 1) (by omega) h2
  · have h:=mt (oF hk (vI m (k + 1))).2.2.mp (by omega)
    simp only [bne_iff_ne,ne_eq]
    exact_mod_cast h
theorem Vx {b : Array UInt8} {m i k : Nat} (hk : k < 4) (hd : b.toList.drop i = (qB m k).dropLast) : wB b i = none:=by
 rw [wB]
 cases k with
 | zero =>
  have : b.toList.drop i = []:=hd
  rw [show b[i]? = none from by rw [← Array.getElem?_toList,← List.head?_drop,this]; rfl]
 | succ k =>
  have hd' : b.toList.drop i = Y4 m (k + 1) :: (qB m k).dropLast:=by
   rw [hd,qB,List.dropLast_cons_of_ne_nil]
   intro e; have:=congrArg List.length e; rw [wV] at this; cases this
  obtain ⟨h1,h2⟩:=jt hd'
  rw [h1]
  dsimp only
  rw [jE hk]
  exact Vm k _ _ (i + 1) hk h2
noncomputable def kZ (m : Nat) : Nat:=if 262143 < m then 3 else if 4095 < m then 2 else if 63 < m then 1 else 0
noncomputable def wM (m : Nat) : List UInt8:=qB m (kZ m)
theorem ju {m : Nat} (hm : m < 16777216) : kZ m < 4 ∧ m < 64 ^ (kZ m + 1):=by
 unfold kZ
 split
 · exact ⟨by decide,hm⟩
 · split
   · exact ⟨by decide,show m < 262144 by omega⟩
   · split
     · exact ⟨by decide,show m < 4096 by omega⟩
     · exact ⟨by decide,show m < 64 by omega⟩
theorem Vn {b : Array UInt8} {tl : List UInt8} (htl : ∀ i,b.toList.drop i = tl → wB b i = none) : ∀ (ms : List Nat) (n i : Nat),(∀ m ∈ ms,m < 16777216) → ms.length < n → b.toList.drop i = ms.flatMap wM ++ tl → jL b n i = ms.map fun m : Nat => (m : Int)
 | [],n + 1,i,_,_,hd => by rw [jL,htl i hd]; rfl
 | m :: ms,n + 1,i,hm,hn,hd => by
  obtain ⟨t1,t2⟩:=ju (hm m (.head _))
  have hd' : b.toList.drop i = qB m (kZ m) ++ (ms.flatMap wM ++ tl):=by
   rw [hd,List.flatMap_cons,List.append_assoc]; rfl
  rw [jL,Wz t1 t2 hd']
  have h2 : b.toList.drop (i + (kZ m + 1)) = ms.flatMap wM ++ tl:=by
   rw [← List.drop_drop,hd',← wV m (kZ m),List.drop_left]
  dsimp only
  rw [Vn htl ms n _ (fun x hx => hm x (.tail _ hx)) (by rw [List.length_cons] at hn; omega) h2]
  rfl
theorem YY (m : Nat) : 0 < (wM m).length:=by unfold wM; rw [wV]; omega
theorem YX (ms : List Nat) : ms.length ≤ (ms.flatMap wM).length:=by
 induction ms with
 | nil => exact Nat.le_refl _
 | cons m ms ih =>
  rw [List.flatMap_cons,List.length_append,List.length_cons]
  have:=YY m
  omega
theorem KM {b : Array UInt8} {ms : List Nat} (hm : ∀ m ∈ ms,m < 16777216) (hb : b.toList = ms.flatMap wM) : vm b = ms.map fun m : Nat => (m : Int):=by
 unfold vm
 refine Vn (tl:=[]) (fun i h => ?_) ms _ 0 hm ?_ (by rw [List.drop_zero,hb,List.append_nil])
 · rw [wB,show b[i]? = none from by rw [← Array.getElem?_toList,← List.head?_drop,h]; rfl]
 · have h1:=YX ms
   have h2 : b.size = (ms.flatMap wM).length:=by rw [← hb,Array.length_toList]
   omega
theorem Kd {b : Array UInt8} {ms : List Nat} {m : Nat} (hm : ∀ m ∈ ms,m < 16777216) (h : m < 16777216) (hb : b.toList = ms.flatMap wM ++ (wM m).dropLast) : vm b = ms.map fun m : Nat => (m : Int):=by
 unfold vm
 refine Vn (tl:=(wM m).dropLast) (fun i hi => Vx (ju h).1 hi) ms _ 0 hm ?_ (by rw [List.drop_zero,hb])
 have h1:=YX ms
 have h2 : b.size = (ms.flatMap wM ++ (wM m).dropLast).length:=by rw [← hb,Array.length_toList]
 rw [List.length_append] at h2
 omega
theorem Y9 {m : Nat} (hm : m < 16777216) : (k6 (m : Int)).map (fun n => n.toNat.toUInt8) = wM m ∧ ∀ o ∈ k6 (m : Int),0 ≤ o ∧ o < 256:=by
 have hd : ∀ k : Nat,k < 4 → Builtin.bitAnd ((m : Int).fdiv (2 ^ (6 * (k : Int)).toNat)) 63 + 64 * (if decide (0 < (k : Int)) = true then 1 else 0) + 128 * (if ((k : Int).fmod 2 == 0) = true then 1 else 0) = ((oN k (Vd m k) : Nat) : Int):=by
   intro k hk
   have e1 : (m : Int).fdiv (2 ^ (6 * (k : Int)).toNat) = ((m / 64 ^ k : Nat) : Int):=by
     have : (6 * (k : Int)).toNat = 6 * k:=by omega
     rw [this,Int.pow_mul,Int.fdiv_eq_ediv_of_nonneg _ (Int.pow_nonneg (by decide))]
     rw [show ((2 : Int) ^ 6) = ((64 : Nat) : Int) from rfl,← Int.natCast_pow]; rfl
   have e2 : (m / 64 ^ k) &&& 63 = Vd m k:=Nat.and_two_pow_sub_one_eq_mod (m / 64 ^ k) 6
   rw [e1,show ((63 : Int)) = ((63 : Nat) : Int) from rfl,yd,e2]
   unfold oN
   have h3 : ((k : Int).fmod 2 == 0) = decide (k % 2 = 0):=by
     rw [Bool.eq_iff_iff,beq_iff_eq,decide_eq_true_eq,Int.fmod_eq_emod_of_nonneg _ (by decide)]
     omega
   have h4 : decide (0 < (k : Int)) = decide (0 < k):=by
     rw [Bool.eq_iff_iff,decide_eq_true_eq,decide_eq_true_eq]; omega
   rw [h3,h4]
   by_cases a : 0 < k <;> by_cases b : k % 2 = 0 <;> simp [a,b] <;> omega
 have hk : Yv (m : Int) = ((List.range (kZ m + 1)).reverse).map fun k : Nat => (k : Int):=by
   unfold Yv wA kZ
   have h1 : ∀ a : Nat,decide ((a : Int) < (m : Int)) = decide (a < m):=fun a => by
     rw [Bool.eq_iff_iff,decide_eq_true_eq,decide_eq_true_eq]; omega
   have q1:=h1 63
   have q2:=h1 4095
   have q3:=h1 262143
   rw [show decide ((63 : Int) < m) = decide (63 < m) from q1,show decide ((4095 : Int) < m) = decide (4095 < m) from q2,show decide ((262143 : Int) < m) = decide (262143 < m) from q3]
   by_cases a : 262143 < m
   · rw [if_pos a,decide_eq_true a,decide_eq_true (by omega : 63 < m),decide_eq_true (by omega : 4095 < m)]; decide
   · rw [if_neg a,decide_eq_false a]
     by_cases b : 4095 < m
     · rw [if_pos b,decide_eq_true b,decide_eq_true (by omega : 63 < m)]; decide
     · rw [if_neg b,decide_eq_false b]
       by_cases c : 63 < m
       · rw [if_pos c,decide_eq_true c]; decide
       · rw [if_neg c,decide_eq_false c]; decide
 have ht : kZ m < 4:=(ju hm).1
 have ho : k6 (m : Int) = ((List.range (kZ m + 1)).reverse).map fun k : Nat => ((oN k (Vd m k) : Nat) : Int):=by
   unfold k6
   rw [hk,List.map_map]
   refine List.map_congr_left fun k hk' => ?_
   rw [List.mem_reverse,List.mem_range] at hk'
   exact hd k (by omega)
 constructor
 · rw [ho,List.map_map]
   have : ∀ t : Nat,((List.range (t + 1)).reverse).map ((fun n : Int => n.toNat.toUInt8) ∘ fun k : Nat => ((oN k (Vd m k) : Nat) : Int)) = qB m t:=by
     intro t
     induction t with
     | zero => rfl
     | succ t ih =>
       rw [List.range_succ,List.reverse_append,List.map_append,ih]
       rfl
   exact this _
 · intro o h
   rw [ho] at h
   obtain ⟨k,hk',rfl⟩:=List.mem_map.mp h
   rw [List.mem_reverse,List.mem_range] at hk'
   have:=(oF (show k < 4 by omega) (vI m k)).1
   omega
noncomputable def qG : List Nat:=[0,32768,32896,34816,34944,34952,40960,41088,41120,43008,43136,43144,43168,43176,43520,43648,43656,43680,43688,43690,49152,49280,49344,51200,51328,51336,51392,51400,52224,52352,52360,52416,52424,52428,57344,57472,57504,57536,57568,59392,59520,59528,59552,59560,59584,59592,59616,59624,59904,60032,60040,60064,60072,60074,60096,60104,60128,60136,60138,60416,60544,60552,60576,60584,60608,60616,60620,60640,60648,60652,60928,61056,61064,61088,61096,61098,61120,61128,61132,61152,61160,61162,61164,61166,61440,61568,61600,61632,61664,61680,63488,63616,63624,63648,63656,63680,63688,63712,63720,63728,63736,64000,64128,64136,64160,64168,64170,64192,64200,64224,64232,64234,64240,64248,64250,64512,64640,64648,64672,64680,64704,64712,64716,64736,64744,64748,64752,64760,64764,65024,65152,65160,65184,65192,65194,65216,65224,65228,65248,65256,65258,65260,65262,65264,65272,65274,65276,65278,65280,65408,65416,65440,65448,65450,65472,65480,65484,65504,65512,65514,65516,65518,65520,65528,65530,65532,65534,65535]
noncomputable def upM (d : Nat) : Nat:=(List.range 16).foldl (fun a o => if o &&& d == d then a ||| 2 ^ o else a) 0
noncomputable def KF : List Nat:=(List.range 16).map upM
noncomputable def Yl (dr : List Nat) : Nat:=dr.foldl (fun a d => a ||| KF.getD d 0) 0
theorem JQ : ∀ d o : Fin 16,((KF.getD d 0).testBit o == (o.val &&& d.val == d.val)) = true:=by decide +kernel
noncomputable def QC (l : List Nat) : Nat:=l.foldl (fun a m => a ||| 2 ^ m) 0
theorem Xb {l : List Nat} {x : Nat} (h : (QC l).testBit x = true) : x ∈ l:=by
 have : ∀ (l : List Nat) (a : Nat),(l.foldl (fun a m => a ||| 2 ^ m) a).testBit x = true → a.testBit x = true ∨ x ∈ l:=by
   intro l
   induction l with
   | nil => intro a h; exact .inl h
   | cons m l ih =>
    intro a h
    rw [List.foldl_cons] at h
    rcases ih _ h with q | q
    · rw [Nat.testBit_or,Nat.testBit_two_pow,Bool.or_eq_true,decide_eq_true_eq] at q
      rcases q with q | q
      · exact .inl q
      · exact .inr (q ▸ .head _)
    · exact .inr (.tail _ q)
 rcases this l 0 h with q | q
 · rw [Nat.zero_testBit] at q; cases q
 · exact q
theorem VG : (qG.all fun m => KF.all fun u => (QC qG).testBit (m ||| u)) = true:=by decide +kernel
theorem JO {dr : List Nat} (hd : ∀ d ∈ dr,d < 16) : Yl dr ∈ qG:=by
 have h : ∀ (l : List Nat) (a : Nat),a ∈ qG → (∀ d ∈ l,d < 16) → l.foldl (fun a d => a ||| KF.getD d 0) a ∈ qG:=by
  intro l
  induction l with
  | nil => intro a ha _; exact ha
  | cons d l ih =>
   intro a ha hl
   rw [List.foldl_cons]
   refine ih _ ?_ fun x hx => hl x (.tail _ hx)
   have hf:=VG
   rw [List.all_eq_true] at hf
   have h2:=hf a ha
   rw [List.all_eq_true] at h2
   have hd16 : d < KF.length:=by
    have:=hl d (.head _)
    unfold KF
    rw [List.length_map,List.length_range]; exact this
   have h3:=h2 (KF.getD d 0) (by
    rw [List.getD_eq_getElem?_getD,List.getElem?_eq_getElem hd16]
    exact List.getElem_mem hd16)
   exact Xb h3
 exact h dr 0 (List.contains_iff_mem.mp rfl) hd
theorem WG {dr : List Nat} (hd : ∀ d ∈ dr,d < 16) {o : Nat} (ho : o < 16) : (Yl dr).testBit o = yP dr o:=by
 have h : ∀ (l : List Nat) (a : Nat),(∀ d ∈ l,d < 16) → (l.foldl (fun a d => a ||| KF.getD d 0) a).testBit o = (a.testBit o || l.any fun d => o &&& d == d):=by
   intro l
   induction l with
   | nil => intro a _; simp
   | cons d l ih =>
    intro a hl
    rw [List.foldl_cons,ih _ fun x hx => hl x (.tail _ hx),Nat.testBit_or,List.any_cons]
    have:=JQ ⟨d,hl d (.head _)⟩ ⟨o,ho⟩
    rw [beq_iff_eq] at this
    rw [this,Bool.or_assoc]
 unfold Yl yP
 rw [h dr 0 hd,Nat.zero_testBit,Bool.false_or,List.isEmpty_map]
 have e : ∀ d : Nat,(Builtin.bitAnd (d : Int) (o : Int) == (d : Int)) = (o &&& d == d):=fun d => by
   rw [yd,Nat.and_comm,Bool.eq_iff_iff,beq_iff_eq,beq_iff_eq]; omega
 have e2 : (dr.filter fun d : Nat => Builtin.bitAnd (d : Int) (o : Int) == (d : Int)) = dr.filter fun d => o &&& d == d:=List.filter_congr fun d _ => e d
 rw [e2,Bool.eq_iff_iff,List.any_eq_true,Bool.not_eq_true',← Bool.not_eq_true,List.isEmpty_iff,List.filter_eq_nil_iff]
 constructor
 · rintro ⟨x,hx,q⟩ z; exact z x hx q
 · intro z
   refine Classical.byContradiction fun n => z fun a ha q => n ⟨a,ha,q⟩
theorem JP : ∀ p : Fin 10,∀ d o : Fin 16,(VK (Vl p d) (vB p o) == (o.val &&& d.val == d.val)) = true:=by decide +kernel
theorem Qm {p : Nat} {dr : List Nat} (hp : p < 10) (hd : ∀ d ∈ dr,d < 16) {o : Nat} (ho : o < 16) : xD (yC p dr) (zG p o) = (Yl dr).testBit o:=by
 have h : ∀ d,d < 16 → wZ (kW p d) (zG p o) = (o &&& d == d):=fun d hd => by
   rw [Wb,QR hp hd,vj hp ho]
   exact beq_iff_eq.mp (JP ⟨p,hp⟩ ⟨d,hd⟩ ⟨o,ho⟩)
 rw [WG hd ho]
 have e : ∀ d : Nat,(Builtin.bitAnd (d : Int) (o : Int) == (d : Int)) = (o &&& d == d):=fun d => by
   rw [yd,Nat.and_comm,Bool.eq_iff_iff,beq_iff_eq,beq_iff_eq]; omega
 unfold xD yC yP
 rw [List.any_map,List.isEmpty_map]
 rw [Bool.eq_iff_iff,List.any_eq_true,Bool.not_eq_true',← Bool.not_eq_true,List.isEmpty_iff,List.filter_eq_nil_iff]
 constructor
 · rintro ⟨x,hx,q⟩ z
   refine z x hx ?_
   rw [e,← h x (hd x hx)]; exact q
 · intro z
   refine Classical.byContradiction fun n => z fun a ha q => n ⟨a,ha, ?_⟩
   rw [e,← h a (hd a ha)] at q; exact q
noncomputable def XS (m : Nat) (row : List Nat) : Nat → Nat → Nat → List Nat → List Nat × Nat
 | 0,lo,_,c => (c,lo)
 | n + 1,lo,hi,c => if lo < hi then
   (if m.testBit (row.getD ((lo + hi) / 2) 0) = true then XS m row n lo ((lo + hi) / 2) (c ++ [row.getD ((lo + hi) / 2) 0]) else XS m row n ((lo + hi) / 2 + 1) hi (c ++ [row.getD ((lo + hi) / 2) 0]))
  else (c,lo)
noncomputable def JC (m K n : Nat) : Nat:=(List.range 16).foldl (fun K o => if (o &&& n == (if m.testBit n = true then n else o)) = true then K ||| 2 ^ o else K) K
noncomputable def vG (m K : Nat) (b : Bool) (row : List Nat) : Nat:=(row.filter fun n => K.testBit n && (m.testBit n == b)).length
noncomputable def qA (m K : Nat) (row : List Nat) (c : List Nat) : List Nat × Nat:=XS m row ((row.length - vG m K true row) - vG m K false row) (vG m K false row) (row.length - vG m K true row) c
noncomputable def V7 (m : Nat) : List (List Nat) → List Nat → Nat → Bool
 | [],c,K => K == 65535 && decide (c.length ≤ 1000)
 | row :: rs,c,K => decide (row.length - vG m K true row - vG m K false row ≤ 2) && decide (vG m K false row + vG m K true row ≤ row.length) && decide (c.length ≤ (qA m K row c).1.length) && decide ((qA m K row c).1.length - c.length ≤ row.length - vG m K true row - vG m K false row) && decide ((qA m K row c).2 = (row.filter fun n => !m.testBit n).length) &&
  V7 m rs (qA m K row c).1 (((qA m K row c).1.drop c.length).foldl (JC m) K)
noncomputable def Jx : List (List Nat):=[[10],[12],[2,6,14],[4,5,13],[8,9,11],[0,1,3,7,15]]
theorem Qb : yZ.map yA = Jx:=by decide +kernel
theorem zAV : (qG.all fun m => V7 m Jx [] 0) = true:=by decide +kernel
theorem Ks : (qG.all fun m => (List.range 16).all fun o => (List.range 16).all fun n => !(m.testBit n && (o &&& n == n)) || m.testBit o) = true:=by decide +kernel
noncomputable def jB (p m : Nat) (n : Nat) : Str × Bool:=(zG p n,m.testBit n)
structure KG (p m : Nat) (st : xC) (c : List Nat) (K : Nat) : Prop where
 asked : st.asked = c.map (jB p m)
 lt : ∀ n ∈ c,n < 16
 len : st.kb.1.length = st.kb.2.length
 known : ∀ n,n < 16 → xB st.kb.1 st.kb.2 (zG p n) = if K.testBit n then some (m.testBit n) else none
theorem VP {p a b : Nat} (hp : p < 10) (ha : a < 16) (hb : b < 16) (h : zG p a = zG p b) : a = b:=by
 have hn:=qR ⟨p,hp⟩
 unfold zM at hn
 dsimp only at hn
 have:=List.pairwise_map.mp (List.nodup_iff_pairwise_ne.mp hn)
 rw [List.pairwise_iff_getElem] at this
 rcases Nat.lt_trichotomy a b with q | q | q
 · have z:=this a b (by simpa using ha) (by simpa using hb) q
   simp only [List.getElem_range,ne_eq] at z
   exact absurd h z
 · exact q
 · have z:=this b a (by simpa using hb) (by simpa using ha) q
   simp only [List.getElem_range,ne_eq] at z
   exact absurd h.symm z
theorem YT {x y : Str} {b : Bool} : ∀ {ks : List Str} {bs : List Bool},ks.length = bs.length → x ∉ ks → xB (ks ++ [x]) (bs ++ [b]) y = if y = x then some b else xB ks bs y
 | [],[],_,_ => by
  show (if x = y then some b else none) = _
  by_cases h : y = x
  · subst h; simp
  · rw [if_neg h,if_neg fun e => h e.symm]; rfl
 | k :: ks,c :: bs,hl,hn => by
  rw [List.mem_cons,not_or] at hn
  rw [List.cons_append,List.cons_append,xB,xB,YT (by simpa using hl) hn.2]
  by_cases h : k = y
  · subst h; rw [if_pos rfl,if_pos rfl,if_neg fun e => hn.1 e.symm]
  · rw [if_neg h,if_neg h]
theorem Yt {x y : Str} {b : Bool} : ∀ {ks : List Str} {bs : List Bool},ks.length = bs.length → x ∈ ks → xB ks ((ks.zip bs).map fun p => if p.1 = x then b else p.2) y = if y = x then some b else xB ks bs y
 | k :: ks,c :: bs,hl,hm => by
  rw [List.zip_cons_cons,List.map_cons,xB,xB]
  by_cases h : k = y
  · subst h
    rw [if_pos rfl,if_pos rfl]
    by_cases q : k = x
    · rw [if_pos q,if_pos q]
    · rw [if_neg q,if_neg q]
  · rw [if_neg h,if_neg h]
    by_cases hx : x ∈ ks
    · exact Yt (by simpa using hl) hx
    · have hkx : k = x:=by
       rcases List.mem_cons.mp hm with e | e
       · exact e.symm
       · exact absurd e hx
      have hyx : ¬ y = x:=fun e => h (hkx.trans e.symm)
      rw [if_neg hyx]
      have : ∀ (ks : List Str) (bs : List Bool),ks.length = bs.length → x ∉ ks → (ks.zip bs).map (fun p => if p.1 = x then b else p.2) = bs:=by
       intro ks
       induction ks with
       | nil => intro bs hl _; cases bs with
         | nil => rfl
         | cons _ _ => cases hl
       | cons k ks ih => intro bs hl hn; cases bs with
         | nil => cases hl
         | cons c bs =>
          rw [List.mem_cons,not_or] at hn
          rw [List.zip_cons_cons,List.map_cons,ih bs (by simpa using hl) hn.2,if_neg fun e => hn.1 e.symm]
      rw [this ks bs (by simpa using hl) hx]
theorem Yg {kb : KB} (hl : kb.1.length = kb.2.length) (x y : Str) (b : Bool) : (yg kb x b).1.length = (yg kb x b).2.length ∧ xB (yg kb x b).1 (yg kb x b).2 y = if y = x then some b else xB kb.1 kb.2 y:=by
 unfold yg jw WI
 dsimp only
 by_cases h : kb.1.contains x = true
 · rw [if_pos h,if_pos h]
   refine ⟨?_,Yt hl (List.contains_iff_mem.mp h)⟩
   rw [List.length_map,List.length_zip,← hl,Nat.min_self]
 · rw [if_neg h,if_neg h]
   refine ⟨by rw [List.length_append,List.length_append,hl]; rfl,YT hl fun e => h (List.contains_iff_mem.mpr e)⟩
theorem XX {p n : Nat} (h : n < 16) : (zM p).getD n (Str.ofString "") = zG p n:=by rw [List.getD_eq_getElem?_getD,vz h]; rfl
theorem Wn {p n : Nat} (hp : p < 10) (h : n < 16) : (zM p).idxOf (zG p n) = n:=by
 have hn:=qR ⟨p,hp⟩
 have hl : n < (zM p).length:=by unfold zM; rw [List.length_map,List.length_range]; exact h
 have e : (zM p)[n] = zG p n:=(List.getElem?_eq_some_iff.mp (vz h)).2
 rw [← e]
 exact hn.idxOf_getElem n hl
theorem Jq {p m n : Nat} (hp : p < 10) (hm : m ∈ qG) (hn : n < 16) : ∀ (j : Nat) (kb : KB) (K : Nat),j ≤ 16 → kb.1.length = kb.2.length → (∀ o,o < 16 → xB kb.1 kb.2 (zG p o) = if K.testBit o then some (m.testBit o) else none) →
  (yU (zM p) n (m.testBit n) j kb).1.length = (yU (zM p) n (m.testBit n) j kb).2.length ∧ ∀ o,o < 16 → xB (yU (zM p) n (m.testBit n) j kb).1 (yU (zM p) n (m.testBit n) j kb).2 (zG p o) = if ((List.range j).foldl (fun K o => if (o &&& n == (if m.testBit n = true then n else o)) = true then K ||| 2 ^ o else K) K).testBit o then some (m.testBit o) else none:=by
 intro j kb K hj hl hk
 induction j with
 | zero => exact ⟨hl,hk⟩
 | succ j ih =>
  obtain ⟨h1,h2⟩:=ih (by omega)
  unfold yU at h1 h2 ⊢
  rw [List.range_succ,List.foldl_append,List.foldl_append,List.foldl_cons,List.foldl_nil,List.foldl_cons,List.foldl_nil]
  generalize List.foldl (xy (zM p) n (m.testBit n)) kb (List.range j) = kb' at h1 h2 ⊢
  generalize List.foldl (fun K o => if (o &&& n == (if m.testBit n = true then n else o)) = true then K ||| 2 ^ o else K) K (List.range j) = K' at h2 ⊢
  have hj16 : j < 16:=by omega
  have hc : (Builtin.bitAnd (j : Int) (n : Int) == (if m.testBit n then (n : Int) else (j : Int))) = (j &&& n == (if m.testBit n = true then n else j)):=by
    rw [yd,Bool.eq_iff_iff,beq_iff_eq,beq_iff_eq]
    cases m.testBit n <;> simp only [Bool.false_eq_true,if_false,if_true] <;> omega
  rw [show xy (zM p) n (m.testBit n) kb' j = if (Builtin.bitAnd (j : Int) (n : Int) == (if m.testBit n then (n : Int) else (j : Int))) = true then yg kb' ((zM p).getD j (Str.ofString "")) (m.testBit n) else kb' from rfl,hc,XX hj16]
  by_cases q : (j &&& n == (if m.testBit n = true then n else j)) = true
  · rw [if_pos q,if_pos q]
    have hs:=fun y => Yg h1 (zG p j) y (m.testBit n)
    refine ⟨(hs (zG p j)).1,fun o ho => ?_⟩
    rw [(hs _).2,Nat.testBit_or,Nat.testBit_two_pow]
    by_cases e : o = j
    · subst e
      rw [if_pos rfl,decide_eq_true rfl,Bool.or_true,if_pos rfl]
      have hu:=Ks
      rw [List.all_eq_true] at hu
      have hu:=hu m hm
      rw [List.all_eq_true] at hu
      have huo:=hu o (List.mem_range.mpr ho)
      have hun:=hu n (List.mem_range.mpr hn)
      rw [List.all_eq_true] at huo hun
      have a1:=huo n (List.mem_range.mpr hn)
      have a2:=hun o (List.mem_range.mpr ho)
      cases ht : m.testBit n
      · rw [ht,if_neg (by decide)] at q
        rw [Nat.and_comm,beq_iff_eq] at q
        rw [ht,q] at a2
        cases h3 : m.testBit o
        · rfl
        · rw [h3] at a2; simp at a2
      · rw [ht,if_pos rfl] at q
        rw [ht,q] at a1
        simpa using a1.symm
    · rw [if_neg fun e' => e (VP hp ho hj16 e'),h2 o ho,decide_eq_false fun e' => e e'.symm,Bool.or_false]
  · rw [if_neg q,if_neg q]
    exact ⟨h1,h2⟩
theorem kY {p m : Nat} (hp : p < 10) (hm : m ∈ qG) : ∀ (l : List Nat) (kb : KB) (K : Nat),(∀ n ∈ l,n < 16) → kb.1.length = kb.2.length → (∀ o,o < 16 → xB kb.1 kb.2 (zG p o) = if K.testBit o then some (m.testBit o) else none) →
  (zu (zM p) (l.map (jB p m)) kb).1.length = (zu (zM p) (l.map (jB p m)) kb).2.length ∧ ∀ o,o < 16 → xB (zu (zM p) (l.map (jB p m)) kb).1 (zu (zM p) (l.map (jB p m)) kb).2 (zG p o) = if (l.foldl (JC m) K).testBit o then some (m.testBit o) else none
 | [],kb,K,_,h1,h2 => ⟨h1,h2⟩
 | n :: l,kb,K,hl,h1,h2 => by
  have hn:=hl n (.head _)
  obtain ⟨g1,g2⟩:=Jq hp hm hn 16 kb K (Nat.le_refl _) h1 h2
  have:=kY hp hm l _ (JC m K n) (fun x hx => hl x (.tail _ hx)) g1 g2
  rw [List.map_cons]
  unfold zu at this ⊢
  rw [List.foldl_cons,List.foldl_cons,show (zM p).idxOf (jB p m n).1 = n from Wn hp hn]
  exact this
theorem Vi {p m : Nat} {dr : List Nat} (hm : ∀ o,o < 16 → xD (yC p dr) (zG p o) = m.testBit o) {row : List Nat} (hr : ∀ n ∈ row,n < 16) : ∀ (n lo hi : Nat) (c : List Nat),hi ≤ row.length → (∀ x ∈ c,x < 16) →
  zg (kK (yC p dr)) ((row.map (zG p)).map .str) n lo hi (c.map (jB p m)) = ((XS m row n lo hi c).1.map (jB p m),(XS m row n lo hi c).2) ∧ ∀ x ∈ (XS m row n lo hi c).1,x < 16
 | 0,_,_,_,_,hc => ⟨rfl,hc⟩
 | n + 1,lo,hi,c,hh,hc => by
  rw [zg,XS]
  by_cases hlt : lo < hi
  · rw [if_pos hlt,if_pos hlt]
    have hmid : (lo + hi) / 2 < row.length:=by omega
    have hx : row.getD ((lo + hi) / 2) 0 < 16:=by
      rw [List.getD_eq_getElem?_getD,List.getElem?_eq_getElem hmid]
      exact hr _ (List.getElem_mem hmid)
    have e : ((row.map (zG p)).map D.str).getD ((lo + hi) / 2) .none = .str (zG p (row.getD ((lo + hi) / 2) 0)):=by
      rw [List.getD_eq_getElem?_getD,List.getD_eq_getElem?_getD,List.getElem?_map,List.getElem?_map,List.getElem?_eq_getElem hmid]; rfl
    rw [e]
    generalize row.getD ((lo + hi) / 2) 0 = x at hx ⊢
    have hg : kK (yC p dr) (c.map (jB p m)) (.str (zG p x)) = ((c ++ [x]).map (jB p m),!m.testBit x):=by
      show (c.map (jB p m) ++ [(zG p x,xD (yC p dr) (zG p x))],!xD (yC p dr) (zG p x)) = _
      rw [hm x hx,List.map_append]; rfl
    rw [hg]
    have hc' : ∀ y ∈ c ++ [x],y < 16:=fun y hy => by
      rcases List.mem_append.mp hy with h | h
      · exact hc y h
      · rw [List.mem_singleton.mp h]; exact hx
    cases m.testBit x
    · exact Vi hm hr n _ _ _ hh hc'
    · exact Vi hm hr n _ _ _ (by omega) hc'
  · rw [if_neg hlt,if_neg hlt]
    exact ⟨rfl,hc⟩
theorem XK : (yZ.all fun kind => (yz.filter fun n => zX (xc n) == zX (yY kind)) == yA kind) = true:=by decide +kernel
theorem Qc {p : Nat} {kind : Str} (h : kind ∈ yZ) : zB (zU p) kind = (yA kind).map (zG p):=by
 have hf:=XK
 rw [List.all_eq_true] at hf
 have:=beq_iff_eq.mp (hf kind h)
 unfold zB zU
 rw [← this,List.filter_map,List.map_map]
 rfl
theorem zAY {p m K : Nat} {kb : KB} (hk : ∀ n,n < 16 → xB kb.1 kb.2 (zG p n) = if K.testBit n then some (m.testBit n) else none) (b : Bool) {row : List Nat} (hr : ∀ n ∈ row,n < 16) : zo kb b (row.map (zG p)) = vG m K b row:=by
 unfold zo vG
 rw [List.filter_map,List.length_map]
 congr 1
 refine List.filter_congr fun n hn => ?_
 show (xB kb.1 kb.2 (zG p n) == some b) = _
 rw [hk n (hr n hn)]
 cases K.testBit n
 · simp
 · simp
theorem Xi (ys : List (Str × Str)) (texts wants : List Str) (st : xC) (kind : Str) : yf ys texts wants st kind =
 { chains:=st.chains ++ [.tup [.str kind,.list ((zB ys kind).map .str),.int (((zB ys kind).length : Int) - (zo st.kb true (zB ys kind) : Int) - (zo st.kb false (zB ys kind) : Int)),.int (((zp wants st.kb (zB ys kind) st.asked).1.length : Int) - (st.asked.length : Int)),.int ((zp wants st.kb (zB ys kind) st.asked).2 : Int)]],kb:=zu texts ((zp wants st.kb (zB ys kind) st.asked).1.drop st.asked.length) st.kb,asked:=(zp wants st.kb (zB ys kind) st.asked).1 }:=rfl
theorem Kk {p : Nat} {dr : List Nat} {f g : Str → Int} {kind : Str} {xs : List Str} {a b c : Int} (hx : xs.map D.str = (yA kind).map fun n => .str (zG p n)) (ha : a = f kind) (hb : b = g kind) (hc : c = Z7 dr kind) :
 D.tup [.str kind,.list (xs.map .str),.int a,.int b,.int c] = j8 p dr f g kind:=by unfold j8; rw [hx,ha,hb,hc]
theorem KZ {p m : Nat} {dr : List Nat} {kind : Str} (hy : ∀ o,o < 16 → yP dr o = m.testBit o) (hr : ∀ n ∈ yA kind,n < 16) : Z7 dr kind = ((yA kind).filter fun n => !m.testBit n).length:=by
 unfold Z7
 generalize yA kind = row at hr
 rw [List.filter_congr fun n hn => by rw [hy n (hr n hn)]]
theorem Wf (p : Nat) (row : List Nat) : (row.map (zG p)).map D.str = row.map fun n => .str (zG p n):=by rw [List.map_map]; rfl
noncomputable def Y5 (k0 : Str) (v : Int) (f : Str → Int) (k : Str) : Int:=if k = k0 then v else f k
theorem v6 (k0 : Str) (v : Int) (f : Str → Int) : Y5 k0 v f k0 = v:=if_pos rfl
theorem jr {k0 k : Str} (v : Int) (f : Str → Int) (h : k ≠ k0) : Y5 k0 v f k = f k:=if_neg h
theorem J2 {p m : Nat} {dr : List Nat} (hp : p < 10) (hm : m ∈ qG) (hy : ∀ o,o < 16 → yP dr o = m.testBit o) (ht : ∀ o,o < 16 → xD (yC p dr) (zG p o) = m.testBit o) : ∀ (kinds : List Str) (st : xC) (c : List Nat) (K : Nat),kinds.Nodup → (∀ k ∈ kinds,k ∈ yZ) → KG p m st c K → V7 m (kinds.map yA) c K = true →
  ∃ (f g : Str → Int) (c' : List Nat),(kinds.foldl (yf (zU p) (zM p) (yC p dr)) st).chains = st.chains ++ kinds.map (j8 p dr f g) ∧ (∀ k ∈ kinds,f k ≤ 2 ∧ g k ≤ f k) ∧ KG p m (kinds.foldl (yf (zU p) (zM p) (yC p dr)) st) c' 65535 ∧ c'.length ≤ 1000
 | [],st,c,K,_,_,R,ok => by
  rw [List.map_nil,V7,Bool.and_eq_true,beq_iff_eq,decide_eq_true_eq] at ok
  exact ⟨fun _ => 0,fun _ => 0,c,by simp,(fun _ h => by cases h),by rw [← ok.1]; exact R,ok.2⟩
 | kind :: kinds,st,c,K,nd,hin,R,ok => by
  have hk:=hin kind (.head _)
  have hr:=(Ju hk).lt
  rw [List.map_cons,V7] at ok
  simp only [Bool.and_eq_true,decide_eq_true_eq] at ok
  obtain ⟨⟨⟨⟨⟨o1,o2⟩,o3⟩,o4⟩,o5⟩,o6⟩:=ok
  have hch : zB (zU p) kind = (yA kind).map (zG p):=Qc hk
  have ct:=fun b => zAY (p:=p) R.known b hr
  have hask : zp (yC p dr) st.kb (zB (zU p) kind) st.asked = ((qA m K (yA kind) c).1.map (jB p m),(qA m K (yA kind) c).2) ∧ ∀ x ∈ (qA m K (yA kind) c).1,x < 16:=by
    unfold zp qA
    rw [hch,ct,ct,R.asked,List.length_map]
    exact Vi ht hr _ _ _ c (Nat.sub_le _ _) R.lt
  obtain ⟨ha,hlt⟩:=hask
  have hdrop : ((zp (yC p dr) st.kb (zB (zU p) kind) st.asked).1.drop st.asked.length) = ((qA m K (yA kind) c).1.drop c.length).map (jB p m):=by
    rw [ha,R.asked,List.length_map,List.map_drop]
  obtain ⟨l1,l2⟩:=kY hp hm ((qA m K (yA kind) c).1.drop c.length) st.kb K (fun x hx => hlt x (List.mem_of_mem_drop hx)) R.len R.known
  have est:=Xi (zU p) (zM p) (yC p dr) st kind
  rw [hdrop,ha,hch,ct,ct,List.length_map,R.asked,List.length_map] at est
  dsimp only at est
  rw [List.length_map] at est
  rw [List.foldl_cons]
  generalize yf (zU p) (zM p) (yC p dr) st kind = st1 at est ⊢
  have R' : KG p m st1 (qA m K (yA kind) c).1 (((qA m K (yA kind) c).1.drop c.length).foldl (JC m) K):=by
    subst est
    exact ⟨rfl,hlt,l1,l2⟩
  rw [List.nodup_cons] at nd
  obtain ⟨f,g,c',q1,q2,q3,q4⟩:=J2 hp hm hy ht kinds _ _ _ nd.2 (fun k h => hin k (.tail _ h)) R' o6
  refine ⟨Y5 kind (((yA kind).length - vG m K true (yA kind) - vG m K false (yA kind) : Nat) : Int) f,Y5 kind (((qA m K (yA kind) c).1.length - c.length : Nat) : Int) g,c', ?_, ?_,q3,q4⟩
  · rw [q1,List.map_cons]
    have e1 : st1.chains = st.chains ++ [j8 p dr (Y5 kind (((yA kind).length - vG m K true (yA kind) - vG m K false (yA kind) : Nat) : Int) f) (Y5 kind (((qA m K (yA kind) c).1.length - c.length : Nat) : Int) g) kind]:=by
      subst est
      refine congrArg (fun x => st.chains ++ [x]) (Kk (Wf p _) ?_ ?_ ?_)
      · rw [v6]; omega
      · rw [v6]; omega
      · rw [KZ (p:=p) hy hr,o5]
    rw [e1,List.append_assoc]
    have e6 : kinds.map (j8 p dr f g) = kinds.map (j8 p dr (Y5 kind (((yA kind).length - vG m K true (yA kind) - vG m K false (yA kind) : Nat) : Int) f) (Y5 kind (((qA m K (yA kind) c).1.length - c.length : Nat) : Int) g)):=List.map_congr_left fun k hk' => by
      have hne : k ≠ kind:=fun e => nd.1 (e ▸ hk')
      unfold j8
      rw [jr _ _ hne,jr _ _ hne]
    rw [e6]; rfl
  · intro k hk'
    by_cases e : k = kind
    · rw [e,v6,v6]; omega
    · rw [jr _ _ e,jr _ _ e]
      rcases List.mem_cons.mp hk' with h | h
      · exact absurd h e
      · exact q2 k h
theorem XY : yZ.Nodup:=by decide +kernel
theorem zAu {p : Nat} {dr : List Nat} (hp : p < 10) (hd : ∀ d ∈ dr,d < 16) : Kv p dr (Qz p dr):=by
 have hm:=JO hd
 have hy : ∀ o,o < 16 → yP dr o = (Yl dr).testBit o:=fun o ho => (WG hd ho).symm
 have ok:=zAV
 rw [List.all_eq_true,← Qb] at ok
 have e0 : (zU p).map (·.1) = (zU 0).map (·.1):=by
   unfold zU; rw [List.map_map,List.map_map]; rfl
 obtain ⟨f,g,c',q1,q2,q3,q4⟩:=J2 hp hm hy (fun o ho => Qm hp hd ho) yZ ⟨[],([],[]),[]⟩ [] 0 XY (fun _ h => h) ⟨rfl,(fun _ h => by cases h),rfl,fun n _ => by rw [Nat.zero_testBit]; rfl⟩ (ok _ hm)
 have er : Qz p dr = yZ.foldl (yf (zU p) (zM p) (yC p dr)) ⟨[],([],[]),[]⟩:=by
   show xG _ _ _ = _
   unfold xG
   rw [e0]; rfl
 rw [er]
 refine ⟨⟨f,g,q1,q2⟩,fun y hy' => ?_, ?_,fun n hn => ?_⟩
 · rw [q3.asked] at hy'
   obtain ⟨n,hn,rfl⟩:=List.mem_map.mp hy'
   exact ⟨n,q3.lt n hn,by unfold jB; rw [hy n (q3.lt n hn)]⟩
 · rw [q3.asked,List.length_map]; exact q4
 · rw [q3.known n hn,hy n hn]
   have : ∀ n : Fin 16,(65535 : Nat).testBit n = true:=by decide
   rw [if_pos (this ⟨n,hn⟩)]
theorem W8 : ∀ n : Fin 61,∀ k : Fin 5,decide ((sliceRange (sliceBounds (some (k.val : Int)) none (some 5) n.val).1 (sliceBounds (some (k.val : Int)) none (some 5) n.val).2.1 (sliceBounds (some (k.val : Int)) none (some 5) n.val).2.2).length ≤ 12) = true:=by decide +kernel
theorem Zm : ∀ l : List Int,(∀ x ∈ l,0 ≤ x ∧ x < 1000000) → 0 ≤ l.sum ∧ l.sum ≤ 1000000 * (l.length : Int)
 | [],_ => by simp
 | x :: l,h => by
  have h1:=h x (.head _)
  have h2:=Zm l fun y hy => h y (.tail _ hy)
  rw [List.sum_cons,List.length_cons]
  omega
theorem KS {α β : Type} (f : α → Option β) (l : List α) : (l.filterMap f).length ≤ l.length:=List.length_filterMap_le f l
theorem VS {α : Type} {xs : List α} {lo hi st : Option Int} {x : α} (h : x ∈ zl xs lo hi st) : x ∈ xs:=by
 unfold zl at h
 obtain ⟨i,_,e⟩:=List.mem_filterMap.mp h
 exact List.mem_of_getElem? e
theorem Jh (sc : List Int) : ∃ ms : List Nat,yE sc = ms.map (fun m : Nat => (m : Int)) ∧ ms.length = 5 ∧ ∀ m ∈ ms,m < 16777216:=by
 have hlt : (yT sc).length ≤ 60:=by unfold yT; rw [List.length_map,List.length_take]; omega
 have ht : ∀ x ∈ yT sc,0 ≤ x ∧ x < 1000000:=fun x hx => by
   unfold yT at hx
   obtain ⟨y,_,rfl⟩:=List.mem_map.mp hx
   rw [Int.fmod_eq_emod_of_nonneg _ (by decide)]
   omega
 have h0 : ∀ t ∈ yE sc,0 ≤ t ∧ t < 16777216:=by
   intro t h
   unfold yE at h
   obtain ⟨k,hk,rfl⟩:=List.mem_map.mp h
   have hk5 : ∃ j : Nat,k = (j : Int) ∧ j < 5:=by
    rw [show (5 : Int) = ((5 : Nat) : Int) from rfl,Yz] at hk
    obtain ⟨j,hj,rfl⟩:=List.mem_map.mp hk
    exact ⟨j,rfl,List.mem_range.mp hj⟩
   obtain ⟨j,rfl,hj⟩:=hk5
   have hl : (zl (yT sc) (some (j : Int)) none (some 5)).length ≤ 12:=by
    have:=W8 ⟨(yT sc).length,by omega⟩ ⟨j,hj⟩
    exact Nat.le_trans (KS _ _) (of_decide_eq_true this)
   have hs:=Zm (zl (yT sc) (some (j : Int)) none (some 5)) fun x hx => ht x (VS hx)
   have hb : ∀ j : Fin 5,0 ≤ jD.getD j.val 0 ∧ jD.getD j.val 0 < 9000:=by decide
   have hb:=hb ⟨j,hj⟩
   rw [Int.toNat_natCast]
   dsimp only at hb
   omega
 refine ⟨(yE sc).map Int.toNat, ?_, ?_, ?_⟩
 · rw [List.map_map]
   symm
   refine (List.map_congr_left fun x hx => ?_).trans (List.map_id (yE sc))
   have:=h0 x hx
   show ((x.toNat : Nat) : Int) = x
   omega
 · rw [List.length_map]; unfold yE; rw [List.length_map,zr]; rfl
 · intro m hm
   obtain ⟨x,hx,rfl⟩:=List.mem_map.mp hm
   have:=h0 x hx
   omega
theorem QU {m : Nat} (h : m < 16777216) : (wM m).length ≤ 4:=by unfold wM; rw [wV]; have:=(ju h).1; omega
theorem QN {ms : List Nat} (hm : ∀ m ∈ ms,m < 16777216) : (byteArr (xe (ms.map fun m : Nat => (m : Int)))).toList = ms.flatMap wM ∧ (∀ o ∈ xe (ms.map fun m : Nat => (m : Int)),0 ≤ o ∧ o < 256) ∧ (xe (ms.map fun m : Nat => (m : Int))).length = (ms.flatMap wM).length:=by
 have h1 : (xe (ms.map fun m : Nat => (m : Int))).map (fun n => n.toNat.toUInt8) = ms.flatMap wM:=by
   unfold xe
   rw [List.map_flatMap,List.flatMap_map]
   induction ms with
   | nil => rfl
   | cons m ms ih =>
    rw [List.flatMap_cons,List.flatMap_cons,ih fun x hx => hm x (.tail _ hx),(Y9 (hm m (.head _))).1]
 refine ⟨?_, ?_, ?_⟩
 · unfold byteArr; rw [List.toList_toArray]; exact h1
 · intro o ho
   unfold xe at ho
   obtain ⟨x,hx,ho⟩:=List.mem_flatMap.mp ho
   obtain ⟨m,h,rfl⟩:=List.mem_map.mp hx
   exact (Y9 (hm m h)).2 o ho
 · rw [← h1,List.length_map]
theorem Jc {ms : List Nat} (hm : ∀ m ∈ ms,m < 16777216) : (ms.flatMap wM).length ≤ 4 * ms.length:=by
 induction ms with
 | nil => exact Nat.le_refl _
 | cons m ms ih =>
  rw [List.flatMap_cons,List.length_append,List.length_cons]
  have:=QU (hm m (.head _))
  have:=ih fun x hx => hm x (.tail _ hx)
  omega
theorem YO (b : Array UInt8) : (KBy.picked b none (some (-1))).toList = b.toList.dropLast:=by
 rw [KBc.picked_eq,List.toList_toArray]
 show (List.take (clipAt b.size (-1) - 0) (List.drop 0 b.toList)) = _
 rw [List.drop_zero,List.dropLast_eq_take,Array.length_toList]
 congr 1
 unfold clipAt
 rw [if_pos (by decide),KA,Int.toNat_natCast,Nat.sub_zero]
theorem JL {α : Type} {l : List α} (h : l ≠ []) : l = l.dropLast ++ [l.getLast h]:=(List.dropLast_concat_getLast h).symm
theorem Ji {b : Array UInt8} {ms : List Nat} (hm : ∀ m ∈ ms,m < 16777216) (hne : ms ≠ []) (hb : b.toList = ms.flatMap wM) : vm (KBy.picked b none (some (-1))) = (ms.map fun m : Nat => (m : Int)).take ((ms.map fun m : Nat => (m : Int)).length - 1):=by
 have e:=JL hne
 have hlast:=hm _ (List.getLast_mem hne)
 generalize ms.getLast hne = m at e hlast
 have h1 : ∀ x ∈ ms.dropLast,x < 16777216:=fun x hx => hm x ((List.dropLast_sublist _).subset hx)
 generalize ms.dropLast = ms' at e h1
 subst e
 rw [Kd h1 hlast]
 · rw [List.map_append,List.length_append,List.map_cons,List.map_nil,List.length_singleton,Nat.add_sub_cancel,List.take_left]
 · rw [YO,hb,List.flatMap_append,List.flatMap_cons,List.flatMap_nil,List.append_nil,List.dropLast_append_of_ne_nil]
   intro z
   have:=YY m
   rw [z] at this; cases this
theorem Vo (sums : List Int) : ∃ dr : List Nat,((sums.take 4).filter fun t => decide (t.fmod 17 < 16)).map (fun t => t.fmod 17) = dr.map (fun d : Nat => (d : Int)) ∧ (∀ d ∈ dr,d < 16) ∧ dr.length ≤ 4:=by
 refine ⟨((sums.take 4).filter fun t => decide (t.fmod 17 < 16)).map fun t => (t.fmod 17).toNat, ?_, ?_, ?_⟩
 · rw [List.map_map]
   refine List.map_congr_left fun x _ => ?_
   show x.fmod 17 = (((x.fmod 17).toNat : Nat) : Int)
   have : 0 ≤ x.fmod 17:=by rw [Int.fmod_eq_emod_of_nonneg _ (by decide)]; omega
   omega
 · intro d hd
   obtain ⟨x,hx,rfl⟩:=List.mem_map.mp hd
   have:=of_decide_eq_true (List.mem_filter.mp hx).2
   omega
 · rw [List.length_map]
   exact Nat.le_trans (List.length_filter_le _ _) (by rw [List.length_take]; omega)
theorem KD (b : Bool) : isD (.bool b) (.bool b) = some true:=by cases b <;> rfl
noncomputable def jR (p : Nat) (y : Nat × Nat) : D:=.tup [.str (wQ p y.1 y.2),.int y.1,.int y.2]
noncomputable def jX : List (Nat × Nat):=(List.range 4).flatMap fun j => (List.range 4).map fun k => (j,k)
theorem Wj : ∀ y ∈ jX,y.1 < 4 ∧ y.2 < 4:=by decide
section
variable {prog : Program} {w : World} {A : Around} {B : Heap} {s₀ s : Shared} {Own₀ M₀ Own M : Addr → Prop} {names : zJ} {env : Env} {ρ : List (Str × RV)} {μ : List (Addr × D)} {h : Heap} {Q : Flow → Shared → Prop} {E : Value → Shared → Prop} {rest : List Stmt} {mg mb : Str → Option Value} {mN : Str → Option Value} {C N : Addr}
theorem Jb (H : wC prog w B mg mb C N mN) (R : Rm A 5) {p : Nat} {dr : List Nat} (hdl : dr.length ≤ 4)
  {P Pr Ls Lb Le : Addr} {ps psr : Array Value} {os osr : List (Addr × Obj)} (hOL : Own Lb)
  (S : St prog w B s₀ Own₀ M₀ zL env Own M [(Str.ofString "bag",.adr Lb),vT p,vW p,vD dr] [(Le,.list []),(Lb,.list []),(Ls,za (zU p)),(P,.obs P (tabObj ps) os),(Pr,.obs Pr (tabObj psr) osr)] s)
  (hQ : ∀ s',
   St prog w B s₀ Own₀ M₀ zL env Own M [vT p,vW p] [(Le,.list []),(Lb,.list (qC dr)),(Ls,za (zU p)),(P,.obs P (tabObj ps) os),(Pr,.obs Pr (tabObj psr) osr)] s' →
   wpAny (model prog w) A (execs ((zC zt).drop 29) env) Q E s') :
  wpAny (model prog w) A (execs ((zC zt).drop 27) env) Q E s:=by
 have R0 : Rm A 0:=R.le (Nat.zero_le _)
 have G:=H.run.hdr.G
 have hlen:=H.run.bis.len
 show wpAny _ _ (execs (_ :: _ :: (zC zt).drop 29) env) _ _ _
 refine' xa (α:=Nat) (σ:=List D) S R0 ?qv (dsrc:=.list (dr.map fun d : Nat => .int d)) dr (fun n : Nat => .int n) (zb.list _) (fun n => [(Str.ofString "number",.dat (.int n))]) ?asg ?fs
  (fun _ => [(Str.ofString "bag",.adr Lb),vT p,vW p,vD dr])
  (fun c => [(Le,.list []),(Lb,.list c),(Ls,za (zU p)),(P,.obs P (tabObj ps) os),(Pr,.obs Pr (tabObj psr) osr)])
  (fun i c => c = qC (dr.take i)) (fun _ _ _ => False) [] rfl ?rho rfl ?off ?turn ?done ?exit
 case qv => k_extra "z"
 case asg => exact fun y _ => wD.name (by k_extra "kd")
 case fs => k_extra "fs"
 case rho => k_extra "sub"
 case off => intro c y; k_extra "kd"
 case exit => exact fun f c s' h _ => h.elim
 case turn =>
  clear S hQ
  intro i y c M' s₁ hy hP' hMM S
  have hnext : qC (dr.take (i + 1)) = qK (fun d => !ltI y d) c (.int y):=by
   rw [List.take_add_one,hy,Option.toList_some,ZG,hP']
  have hcl : c.length ≤ 4:=by rw [hP',Y2,List.length_take]; k_extra "o"
  have hci : ∀ d ∈ c,∃ n : Nat,d = .int n:=by rw [hP']; exact Yd
  clear hP'
  obtain ⟨f,fd,t,HI,BI⟩:=H.run.bis.ins
  show wpAny _ _ (execs (_ :: []) _) _ _ _
  refine' xk S.e.n (xj (f:=.ref f) (rs:=[.adr Lb,.dat (.int y)]) S.e (Ev.glob G S.e ?a1 (.inl HI.g) (by decide)) HI.keepy (.cons (r:=.adr Lb) (Ev.var S.e ?a2 (by decide)) (.cons (r:=.dat (.int y)) ?a3 .nil fun _ => rfl) fun _ => rfl) fun vs s₂ ks rvs => ?a4) rfl
  case a1 => k_extra "kd"
  case a2 => k_extra "mem"
  case a3 => clear hnext; k_extra "z"
  case a4 =>
   refine zP.use2 rvs fun w1 w2 q1 q2 => ?_
   have q1 : w1 = .ref Lb:=q1
   subst q1
   have S₂:=S.step ks
   refine ZA (k:=0) (M₁:=M') (xs:=c) (xd:=.int y) H.run.bis HI BI (ltI y) (R.le (by decide)) S₂.e.base S₂.e.old (S₂.own Lb hOL) (S₂.base Lb hOL) (S₂.e.mem Lb _ yo) q2 (by k_extra "o") (fun d hd => ?_) fun s₃ ef c3 => ?_
   · obtain ⟨n,rfl⟩:=hci d hd
     exact zN.lt _ _
   · obtain ⟨h3,tk3,rfl,kk3⟩:=ef
     have S₃:=S₂.effect1 (pre:=[(Le,.list [])]) (h':=h3) (tk:=tk3) rfl hOL (fun b o n e => kk3 b o (by simpa using n) e) c3
     refine zD ⟨qK (fun d => !ltI y d) c (.int y),Own,M',S₃.sub fun _ _ hm => .tail _ hm,hnext.symm⟩
 case done =>
  clear S
  intro c s' hP' S
  rw [List.take_length] at hP'
  subst hP'
  refine zD ?_
  show wpAny _ _ (execs (_ :: (zC zt).drop 29) _) _ _ _
  have hoc:=xZ (dr.map fun n : Nat => (((dr.filter fun k : Nat => decide ((k : Int) < (n : Int))).length : Nat) : Int))
  have ec : (dr.map fun n : Nat => (((dr.filter fun k : Nat => decide ((k : Int) < (n : Int))).length : Nat) : Int)).map D.int = dr.map fun n : Nat => .int ((dr.filter fun k : Nat => decide ((k : Int) < (n : Int))).length : Nat):=by rw [List.map_map]; rfl
  rw [ec] at hoc
  refine' vp S ?t1 fun s2 S2 => hQ s2 (S2.sub (by k_extra "sub"))
  clear hQ ec
  refine' Tv.cast (Tv.cmp (da:=.list (dr.map fun n : Nat => .int ((dr.filter fun k : Nat => decide ((k : Int) < (n : Int))).length : Nat))) (db:=.list (dr.map fun n : Nat => .int ((dr.filter fun k : Nat => decide ((k : Int) < (n : Int))).length : Nat))) R0 (Ev.rd (Ev.comp1 S.e R0 ?b1 (dsrc:=.list (dr.map fun d : Nat => .int d)) ?b2 dr (fun n : Nat => .int n) (zb.list _) (fun n : Nat => .int ((dr.filter fun k : Nat => decide ((k : Int) < (n : Int))).length : Nat)) ?b3 ?b4 ?b5 ?b6)) (Ev.rd (Ev.comp1 S.e R0 ?c1 (dsrc:=.list (dr.map fun d : Nat => .int d)) ?c2 dr (fun n : Nat => .int n) (zb.list _) (fun n : Nat => .int ((dr.filter fun k : Nat => decide ((k : Int) < (n : Int))).length : Nat)) ?c3 ?c4 ?c5 ?c6)) (zN.ne hoc hoc) rfl) (by rw [yt hoc]; rfl)
  case b1 => k_extra "kd"
  case b2 => k_extra "z"
  case b3 => k_extra "kd"
  case b4 => rw [sizeLine_eq]; k_extra "o"
  case b5 => k_extra "fs"
  case c1 => k_extra "kd"
  case c2 => k_extra "z"
  case c3 => k_extra "kd"
  case c4 => rw [sizeLine_eq]; k_extra "o"
  case c5 => k_extra "fs"
  case b6 =>
   intro n hn env' h' M' kx hE
   obtain ⟨f,fd,t,HB,BI⟩:=H.run.bis.left
   intro s E2 Q2 k hQ2
   have hE2:=hE.ext k
   refine' xj (f:=.ref f) (rs:=[.adr Lb,.dat (.int n)]) hE2 (Ev.glob G hE2 ?a1 (.inl HB.g) (by decide)) HB.keepy (.cons (r:=.adr Lb) (Ev.var hE2 ?a2 (by decide)) (.cons (r:=.dat (.int n)) ?a3 .nil fun _ => rfl) fun _ => rfl) fun vs s₂ ks rvs => ?a4
   case a1 => k_extra "kd"
   case a2 => k_extra "mem"
   case a3 => clear hE; k_extra "z"
   case a4 =>
     refine zP.use2 rvs fun w1 w2 q1 q2 => ?_
     have q1 : w1 = .ref Lb:=q1
     subst q1
     have hE3:=hE2.ext (ke ks)
     refine kl (k:=0) (M₁:=M') (xs:=qC dr) (xd:=.int n) (hd:=.none) (ra:=.adr Lb) (μa:=[(Lb,.list (qC dr))]) (args:=⟨[.ref Lb,w2],[]⟩) G hlen HB (gtI n) 0 (qC dr).length (R.le (by decide)) hE3.base hE3.old (.inr ⟨Lb,rfl,rfl⟩) rfl (fun a d m => by cases List.mem_singleton.mp m; exact hE3.mem Lb _ yo) q2 .none (Zj (BI.ext hE3.base) (.ref Lb) w2) (by rw [Y2]; k_extra "o") (.inl ⟨rfl,rfl⟩) (Nat.le_refl _) (fun d hd => ?_) fun v s₃ k₃ rv => ?_
     · obtain ⟨m,rfl⟩:=Yd d hd
       exact zN.lt _ _
     · rw [Qt] at rv
       exact hQ2 v s₃ (zA ks k₃) rv
  case c6 =>
   intro n hn env' h' M' kx hE
   refine' Ev.cast (Ev.call hE R0 (Ev.glob G hE ?d1 (.inr hlen) (by decide)) (.inl fun _ e => by cases e) (xJ.cons (Ev.rd (Ev.comp1F hE R0 ?e1 (dsrc:=.list (dr.map fun d : Nat => .int d)) ?e2 dr (fun n : Nat => .int n) (zb.list _) (fun k : Nat => decide ((k : Int) < (n : Int))) (fun k : Nat => .int k) ?e3 ?e4 ?e5 ?e6)) .nil fun _ => rfl) (zH.lenL _ ?d2)) ?d3
   case d1 => k_extra "kd"
   case d2 => rw [List.length_map,sizeLine_eq]; exact Nat.le_trans (List.length_filter_le _ _) (by k_extra "o")
   case d3 => rw [List.length_map]
   case e1 => k_extra "kd"
   case e2 => k_extra "z"
   case e3 => k_extra "kd"
   case e4 => rw [sizeLine_eq]; k_extra "o"
   case e5 => k_extra "fs"
   case e6 =>
     clear hE
     intro m hm env'' h'' M'' kx' hE
     refine ⟨xO.one (Tv.cmp (M:=M'') R0 ?u1 ?u2 (zN.lt _ _) rfl),fun _ => ?u3⟩
     case u1 | u2 | u3 => k_extra "z"
theorem Zv {p : Nat} {i : Int} {ie : Expr} {xp pos : Pos} (S : En prog w B names env h M ρ μ) (h0 : 0 ≤ i) (h16 : i < 16) (hm : (Str.ofString "texts",RV.dat (.list ((zM p).map .str))) ∈ ρ) (hi : Ev prog w A h ie env (PR prog w M (.int i))) :
  Ev prog w A h (.Subscript (.Name (Str.ofString "texts") xp) ie pos) env (PS prog w M (.str (zG p i.toNat))):=by
 refine Ev.item (xs:=(zM p).map .str) (i:=i) (Ev.rd (Ev.name S hm (by decide))) hi h0 (by k_extra "o") ?_
 have:=Zc (p:=p) (n:=i.toNat) (by k_extra "o")
 rw [Int.toNat_natCast] at this
 exact this
theorem Q1 (H : wC prog w B mg mb C N mN) (R : Rm A 5) {p : Nat} (Fp : w9 p)
  (S : St prog w B s₀ Own₀ M₀ zL env Own M [vT p,vW p] μ s)
  (hQ : ∀ ρ' s',St prog w B s₀ Own₀ M₀ zL env Own M ρ' μ s' → Q (.ret (.bool true)) s') :
  wpAny (model prog w) A (execs ((zC zt).drop 29) env) Q E s:=by
 have R0 : Rm A 0:=R.le (Nat.zero_le _)
 have G:=H.run.hdr.G
 have hr:=H.run.range
 have hp10:=Fp.lt
 have hwl:=Fp.len
 obtain ⟨ef,efd,HEl,hell⟩:=H.run.ell.call (prog:=prog) (w:=w)
 show wpAny _ _ (execs (_ :: _ :: _ :: []) env) _ _ _
 refine' WS (σ:=Unit) (d:=.list (jX.map (jR p))) (Z:=fun s₁ _ => St prog w B s₀ Own₀ M₀ zL env Own M [vT p,vW p] μ s₁) S.e.n ?a1 (?a2 : jc ..) (fun s₁ c hz => ⟨_,hz,fun s' S' => ?a3⟩)
 case a1 => k_extra "kd"
 case a2 =>
  have e0 : D.list (jX.map (jR p)) = .list ((List.range 4).flatMap fun j => (List.range 4).map fun k => jR p (j,k)):=by unfold jX; rw [List.map_flatMap]; simp only [List.map_map]; rfl
  rw [e0]
  refine' WE (B:=B) (names:=zL) (ρ:=[vT p,vW p]) (μ:=fun _ => μ) (dsrc:=.rng 0 (4 : Nat) 1) S.e.n R0 ?d1 (List.range 4) (fun n : Nat => .int n) (zb.nat (by decide)) (fun j => [(Str.ofString "j",.dat (.int j))]) (fun _ => .rng 0 (4 : Nat) 1) (fun _ => List.range 4) (fun n : Nat => .int n) (fun k => [(Str.ofString "k",.dat (.int k))]) (fun j k => jR p (j,k))
   ?d2 ?d3 ?d4 ?d5 ?d6 ?d7 ?d8 ?d9 ?d10 ?d11 ?d0 ?d12 ?d13
  case d1 => k_extra "kd"
  case d2 => exact fun y _ => wD.name (by k_extra "kd")
  case d3 => exact fun y _ x r hm => by cases List.mem_singleton.mp hm; decide +kernel
  case d4 => k_extra "fs"
  case d5 => exact fun _ _ => zb.nat (by decide)
  case d6 => exact fun y _ z _ => wD.name (by k_extra "kd")
  case d7 => exact fun y _ z _ x r hm => by cases List.mem_singleton.mp hm; decide +kernel
  case d8 =>
   intro y _ z _ x r hm r' hm'
   cases List.mem_singleton.mp hm
   have:=List.mem_singleton.mp hm'
   simp only [Prod.mk.injEq] at this
   exact absurd this.1 (by decide)
  case d9 => exact fun _ _ => rfl
  case d10 => rw [sizeLine_eq]; simp only [List.length_flatMap,List.length_map,List.length_range]; decide
  case d11 => exact fun _ _ a d m => ⟨d,m⟩
  case d0 =>
   intro E2
   refine (?e1 : Ev prog w A s.heap _ env (PS prog w M (.rng 0 (4 : Nat) 1))) s E2 _ (zR.refl _) fun v s₁ k₁ rv => ⟨(),S.step k₁,S.e.ext (ke k₁),rv⟩
   case e1 => clear hell; k_extra "z"
  case d12 =>
   clear hell
   intro y hy c env' h' M' hE
   k_extra "z"
  case d13 =>
   intro j hj k hk c env' h' M' hE
   have hj:=List.mem_range.mp hj
   have hk:=List.mem_range.mp hk
   have Fw:=fun i (hi : i < 4) => of_decide_eq_true (ZH ⟨p,hp10⟩ ⟨i,hi⟩)
   have w1:=Fw j hj
   have w2:=Fw k hk
   dsimp only at w1 w2
   clear Fw hell
   have e5 : (Str.ofString ",... ").length = 5:=by decide +kernel
   have b1 : zv.length = 1:=rfl
   have c1 : xq.length = 1:=rfl
   refine' Ev.tuple hE (.cons (d:=.str (wQ p j k)) ?t1 (.cons (d:=.int j) ?t2 (.cons (d:=.int k) ?t3 .nil fun _ => rfl) fun _ => rfl) fun _ => rfl) (by show 3 ≤ _; rw [sizeLine_eq]; decide)
   case t2 | t3 => clear w1 w2; k_extra "z"
   case t1 =>
    refine' Ev.bin (da:=.str (zv ++ (zk p).getD j eS ++ Str.ofString ",... " ++ (zk p).getD k eS)) (db:=.str xq) hE (Ev.rd (Ev.bin (da:=.str (zv ++ (zk p).getD j eS ++ Str.ofString ",... ")) (db:=.str ((zk p).getD k eS)) hE (Ev.rd (Ev.bin (da:=.str (zv ++ (zk p).getD j eS)) (db:=.str (Str.ofString ",... ")) hE (Ev.rd (Ev.bin (da:=.str zv) (db:=.str ((zk p).getD j eS)) hE (Ev.rd (Ev.const_str _ _ _)) (Ev.rd ?x1) (yL.addS _ _ ?y1))) (Ev.rd (Ev.const_str _ _ _)) (yL.addS _ _ ?y2))) (Ev.rd ?x2) (yL.addS _ _ ?y3))) (Ev.rd (Ev.const_str _ _ _)) (yL.addS _ _ ?y4)
    case y1 => rw [sizeLine_eq,b1]; k_extra "o"
    case y2 => rw [sizeLine_eq,Str.length_append,b1,e5]; k_extra "o"
    case y3 => rw [sizeLine_eq,Str.length_append,Str.length_append,b1,e5]; k_extra "o"
    case y4 => rw [sizeLine_eq,Str.length_append,Str.length_append,Str.length_append,b1,e5,c1]; k_extra "o"
    case x1 =>
     refine' Ev.item (xs:=(zk p).map .str) (i:=(j : Int)) ?v1 ?v2 (by k_extra "o") (by k_extra "o") (wm (by rw [hwl]; exact hj))
     case v1 | v2 => clear w1 w2; k_extra "z"
    case x2 =>
     refine' Ev.item (xs:=(zk p).map .str) (i:=(k : Int)) ?v3 ?v4 (by k_extra "o") (by k_extra "o") (wm (by rw [hwl]; exact hk))
     case v3 | v4 => clear w1 w2; k_extra "z"
 case a3 =>
  clear S hz
  have S:=S'
  clear S'
  refine' vp S ?t1 fun s2 S2 => ?t2
  case t1 =>
   refine' Tv.cast (Tv.cmp (da:=.list []) (db:=.list []) R0 (Ev.rd (Ev.cast (Ev.compF S.e R0 ?b1 (dsrc:=.list (jX.map (jR p))) ?b2 jX (jR p) (zb.list _) (fun y => [(Str.ofString "want",.dat (.str (wQ p y.1 y.2))),(Str.ofString "j",.dat (.int y.1)),(Str.ofString "k",.dat (.int y.2))]) (fun _ => false) (fun y => .int y.1) ?b3 ?b4 ?b5 ?b6 ?b7) ?b8)) ?b9 (zN.ne rfl rfl) rfl) rfl
   case b1 => k_extra "kd"
   case b2 | b9 => clear hell; k_extra "z"
   case b3 => exact fun y _ => wD.tuple [(Str.ofString "want",_),(Str.ofString "j",_),(Str.ofString "k",_)] rfl (by decide) (by k_extra "kd") rfl
   case b4 => exact xu fun _ => by kernel_rfl
   case b5 => rw [sizeLine_eq]; decide
   case b6 => k_extra "fs"
   case b8 => rw [List.filter_eq_nil_iff.mpr (by simp)]; rfl
   case b7 =>
    intro y hy env' h' M' kx hE
    obtain ⟨hj,hk⟩:=Wj y hy
    obtain ⟨j,k⟩:=y
    dsimp only at hj hk hE
    have Pf:=Wy hp10 hj hk
    have c1:=hell _ _ (wh Pf.fit1 (wd (p:=p) (n:=(Kh j k).toNat) Fp (by have:=Pf.or16; k_extra "o")))
    have c2:=hell _ _ (wh Pf.fit2 (wd (p:=p) (n:=15) Fp (by decide)))
    have l1:=Pf.len
    have o0:=Pf.or0
    have o16:=Pf.or16
    rw [Pf.ell1] at c1
    rw [Pf.ell2] at c2
    clear Pf hell
    have d3 : xE.length = 3:=by decide +kernel
    refine ⟨xO.one (Tv.cast (Tv.or_cons (a:=false) (b:=false) (Tv.cmp (da:=.bool (decide ((j : Int) < (k : Int)))) (db:=.bool (decide ((j : Int) < (k : Int)))) R0 (Ev.rd (Ev.call hE (R.le (by decide : 1 ≤ 5)) (Ev.glob G hE ?u1 (.inl HEl.g) (by decide)) HEl.keepy (xJ.cons (Ev.rd ?u2) (xJ.cons (Ev.rd (Zv hE o0 o16 ?u3 (Ev.rd (Ev.bin (da:=.int (1 * 2 ^ j)) (db:=.int (1 * 2 ^ k)) hE (Ev.rd (Ev.bin (da:=.int 1) (db:=.int j) hE (Ev.rd (Ev.const_int _ _ _)) (Ev.rd ?u4) (yL.shl _ _ ?u5 ?u6 ?u7))) (Ev.rd (Ev.bin (da:=.int 1) (db:=.int k) hE (Ev.rd (Ev.const_int _ _ _)) (Ev.rd ?u8) (yL.shl _ _ ?u9 ?u10 ?u11))) (yL.or _ _))))) .nil fun _ => rfl) fun _ => rfl) c1)) (Ev.rd (Ev.cmp R0 (Ev.rd ?u12) (Ev.rd ?u13) (zN.lt _ _) rfl)) (zN.isNot (b:=true) (KD _)) rfl) fun _ =>
     Tv.cast (Tv.or_cons (a:=false) (b:=false) (Tv.cmp (da:=.bool (((j : Int) == 0) && ((k : Int) == 3))) (db:=.bool (((j : Int) == 0) && ((k : Int) == 3))) R0 (Ev.rd (Ev.call hE (R.le (by decide : 1 ≤ 5)) (Ev.glob G hE ?w1 (.inl HEl.g) (by decide)) HEl.keepy (xJ.cons (Ev.rd ?w2) (xJ.cons (Ev.rd (Zv hE (i:=15) (by decide) (by decide) ?w3 (Ev.rd (Ev.const_int _ _ _)))) .nil fun _ => rfl) fun _ => rfl) c2)) (Ev.rd (Ev.cast (Ev.and2 (Ev.cmp R0 (Ev.rd ?w4) (Ev.rd (Ev.const_int _ _ _)) (zN.eqI (j : Int) _) rfl) (yq.bool _) fun _ => Ev.cmp R0 (Ev.rd ?w5) (Ev.rd (Ev.const_int _ _ _)) (zN.eqI (k : Int) _) rfl) ?w6)) (zN.isNot (b:=true) (KD _)) rfl) fun _ => Tv.or_nil) rfl) rfl),fun hf => by cases hf⟩
    case u1 => k_extra "kd"
    case u2 =>
     refine' Ev.bin (da:=.str (xE ++ wQ p j k)) (db:=.str xE) hE (Ev.rd (Ev.bin (da:=.str xE) (db:=.str (wQ p j k)) hE (Ev.rd (Ev.const_str _ _ _)) (Ev.rd ?z1) (yL.addS _ _ ?z2))) (Ev.rd (Ev.const_str _ _ _)) (yL.addS _ _ ?z3)
     case z1 => exact Ev.name hE (.head _) (by decide)
     case z2 => rw [sizeLine_eq,d3]; k_extra "o"
     case z3 => rw [sizeLine_eq,Str.length_append,d3]; k_extra "o"
    case u3 | w3 => exact List.mem_append_right _ (vc (.tail _ (xh (.head _) (by decide))) (by k_extra "kd"))
    case u4 => exact Ev.name hE yo (by decide)
    case u8 => exact Ev.name hE xA (by decide)
    case u12 => exact Ev.name hE yo (by decide)
    case u13 => exact Ev.name hE xA (by decide)
    case w2 => exact Ev.name hE (.head _) (by decide)
    case w4 => exact Ev.name hE yo (by decide)
    case w5 => exact Ev.name hE xA (by decide)
    case u5 | u6 => k_extra "o"
    case u7 => decide
    case u9 | u10 => k_extra "o"
    case u11 => decide
    case w1 => k_extra "kd"
    case w6 => cases ((j : Int) == 0) <;> rfl
  case t2 =>
   clear S
   have S:=S2
   clear S2
   refine' xF (d:=.bool true) S ?b1 (fun v s' S' r => by rw [r.bool_inv]; exact hQ _ s' S')
   case b1 =>
    refine' Ev.cast (Ev.cmp (da:=.list []) (db:=.list []) R0 (Ev.rd (Ev.cast (Ev.comp1F S.e R0 ?c1 (dsrc:=.rng 0 (4 : Nat) 1) ?c2 (List.range 4) (fun n : Nat => .int n) (zb.nat (by decide)) (fun _ => false) (fun n : Nat => .int n) ?c3 ?c4 ?c5 ?c6) ?c7)) ?c8 (zN.eq rfl rfl) rfl) rfl
    case c1 => k_extra "kd"
    case c2 => clear hell; k_extra "z"
    case c3 => k_extra "kd"
    case c4 => rw [List.length_range,sizeLine_eq]; decide
    case c5 => k_extra "fs"
    case c7 => rw [List.filter_eq_nil_iff.mpr (by simp)]; rfl
    case c8 => clear hell; k_extra "z"
    case c6 =>
     intro j hj env' h' M' kx hE
     have hj:=List.mem_range.mp hj
     obtain ⟨g1,g2,g3⟩:=VL hp10 hj
     have c1:=hell _ _ (wh g1 (wd (p:=p) (n:=2 ^ j) Fp g3))
     rw [g2] at c1
     have l1:=wd (p:=p) (n:=2 ^ j) Fp g3
     clear g1 g2 hell
     have d3 : xE.length = 3:=by decide +kernel
     have e2 : ((1 : Int) * 2 ^ j).toNat = 2 ^ j:=by rw [Int.one_mul]; exact_mod_cast Int.toNat_natCast (2 ^ j)
     have e3 : (1 : Int) * 2 ^ j < 16:=by rw [Int.one_mul]; exact_mod_cast g3
     have e4 : 0 ≤ (1 : Int) * 2 ^ j:=by rw [Int.one_mul]; exact_mod_cast Nat.zero_le (2 ^ j)
     have tx : ∀ {xp p1 p2 p3 p4 : Pos} {k1 : Nat},Ev prog w A h' (.Subscript (.Name (Str.ofString "texts") xp) (.BinOp (.Constant (.int 1) k1 p1) .LShift (.Name (Str.ofString "j") p2) p3) p4) env' (PS prog w M' (.str (zG p (2 ^ j)))):=by
      intro xp p1 p2 p3 p4 k1
      have:=Zv (A:=A) (p:=p) (i:=1 * 2 ^ j) (xp:=xp) (pos:=p4) hE e4 e3 (.tail _ (vc (.tail _ (xh (.head _) (by decide))) (by k_extra "kd"))) (Ev.rd (Ev.bin (p:=p3) (da:=.int 1) (db:=.int j) hE (Ev.rd (Ev.const_int 1 k1 p1)) (Ev.rd (Ev.name (p:=p2) hE (.head _) (by decide))) (yL.shl _ _ (by k_extra "o") (by k_extra "o") (by decide))))
      rw [e2] at this
      exact this
     refine ⟨xO.one (Tv.cmp (da:=.bool false) (db:=.bool false) R0 (Ev.rd (Ev.call hE (R.le (by decide : 1 ≤ 5)) (Ev.glob G hE ?xx1 (.inl HEl.g) (by decide)) HEl.keepy (xJ.cons (Ev.rd (Ev.bin (da:=.str (zG p (2 ^ j) ++ xE)) (db:=.str (zG p (2 ^ j))) hE (Ev.rd (Ev.bin (da:=.str (zG p (2 ^ j))) (db:=.str xE) hE (Ev.rd tx) (Ev.rd (Ev.const_str _ _ _)) (yL.addS _ _ ?xx2))) (Ev.rd tx) (yL.addS _ _ ?xx3))) (xJ.cons (Ev.rd tx) .nil fun _ => rfl) fun _ => rfl) c1)) (Ev.rd (Ev.const_bool _ _ _)) (zN.isNot (b:=true) rfl) rfl),fun hf => by cases hf⟩
     case xx1 => k_extra "kd"
     case xx2 => rw [sizeLine_eq,d3]; k_extra "o"
     case xx3 => rw [sizeLine_eq,Str.length_append,d3]; k_extra "o"
theorem KQ (H : wC prog w B mg mb C N mN) (R : Rm A 3) (hL : env.frame = some env.locals) (hfr : A.frames = some [env]) {oc : Array UInt8} {sums : List Int} {p : Nat} {dr : List Nat} (Fp : w9 p) (hlen : sums.length ≤ 1000) (hsz : oc.size ≤ 1000) (hsz2 : (KBy.picked oc none (some (-1))).size ≤ 1000) (hrd : vm (KBy.picked oc none (some (-1))) = sums.take (sums.length - 1))
  (S : St prog w B s₀ Own₀ M₀ zL env Own M [vT p,vW p,vD dr,vP p,vR sums,vO oc,vS sums] μ s)
  (hQ : ∀ s',St prog w B s₀ Own₀ M₀ zL env Own M [vT p,vW p,vD dr] μ s' → wpAny (model prog w) A (execs ((zC zt).drop 10) env) Q E s') :
  wpAny (model prog w) A (execs ((zC zt).drop 8) env) Q E s:=by
 have R0 : Rm A 0:=R.le (Nat.zero_le _)
 have G:=H.run.hdr.G
 have hr:=H.run.range
 have hp10:=Fp.lt
 show wpAny _ _ (execs (_ :: _ :: (zC zt).drop 10) env) _ _ _
 refine' yr S ?c1 R0 ?c2 (dsrc:=.rng 0 (16 : Nat) 1) ?c3 (List.range 16) (fun n : Nat => .int n) (zb.nat (by decide)) (fun n => .str (k8 p n)) ?c4 ?c5 ?c6 ?c7 ?c8
 case c1 | c2 => k_extra "kd"
 case c3 => k_extra "z"
 case c4 => k_extra "kd"
 case c5 => rw [List.length_range,sizeLine_eq]; decide
 case c6 => k_extra "fs"
 case c7 =>
  intro n hn env' h' M' kx hE
  have hn:=List.mem_range.mp hn
  refine' Ev.meth (T := "str") hE R0 ?qo rfl F.plainAttrs_str F.slot_str_join F.type_str_join (xJ.cons (Ev.rd (Ev.cast (Ev.or2 (d:=.list ((Wh p n).map .str)) (e:=.list ([J6].map .str)) ?x1 (yq.list _ ?x2) ?x3) ?x4)) .nil fun _ => rfl) rfl (by decide) rfl (zH.join vX (XZ p n) (Fp.jf n hn))
  case qo => k_extra "z"
  case x2 => rw [List.length_map,sizeLine_eq]; exact Nat.le_trans (by unfold Wh; rw [List.length_map]; exact Nat.le_trans (List.length_filter_le _ _) (by rw [List.length_range]; exact (by decide : 4 ≤ 1000))) (by decide)
  case x3 => intro _; (first | show Ev _ _ _ _ _ _ (PS _ _ _ (.list [.str (Str.ofString "0x0")])) | show Ev _ _ _ _ _ _ (PR _ _ _ (.list [.str (Str.ofString "0x0")]))); k_extra "z"
  case x4 => unfold XZ; cases Wh p n <;> rfl
  case x1 =>
   refine' Ev.cast (Ev.comp1F hE R0 ?y1 (dsrc:=.rng 0 (4 : Nat) 1) ?y2 (List.range 4) (fun n : Nat => .int n) (zb.nat (by decide)) (VT n) (fun k => .str ((zk p).getD k eS)) ?y3 ?y4 ?y5 ?y6) ?y7
   case y1 => k_extra "kd"
   case y2 => k_extra "z"
   case y3 => k_extra "kd"
   case y4 => rw [List.length_range,sizeLine_eq]; decide
   case y5 => k_extra "fs"
   case y7 => unfold Wh; rw [List.map_map]; rfl
   case y6 =>
    clear hE
    intro k hk env'' h'' M'' kx' hE
    have hk:=List.mem_range.mp hk
    refine ⟨xO.one ?t1,fun _ => ?t2⟩
    case t1 =>
     refine' Tv.plain (Ev.rd (Ev.bin (da:=.int ((n : Int).fdiv (2 ^ k))) (db:=.int 1) hE (Ev.rd (Ev.bin (da:=.int n) (db:=.int k) hE ?u1 ?u2 (yL.shr _ _ ?u3))) ?u4 (yL.and _ _))) (yq.int _) rfl
     case u1 | u2 => k_extra "z"
     case u3 => k_extra "o"
     case u4 => k_extra "z"
    case t2 =>
     refine' Ev.item (xs:=(zk p).map .str) (i:=(k : Int)) ?v1 ?v2 (by k_extra "o") (by k_extra "o") ?v3
     case v1 | v2 => k_extra "z"
     case v3 =>
      have hl:=Fp.len
      rw [Int.toNat_natCast,List.getElem?_map,List.getD_eq_getElem?_getD,List.getElem?_eq_getElem (by k_extra "o")]
      rfl
 case c8 =>
  k_extra "next"
  refine' Kj (μ':=μ) S ?t1 ?t2
  case t2 => exact fun s' S' => hQ s' (S'.sub (by k_extra "sub"))
  case t1 =>
   refine ku.or_cons (μ₂:=μ) (ku.of_tv fun s S => ?q1) (ku.or_cons (μ₂:=μ) ?q2 (ku.or_cons (μ₂:=μ) (ku.of_tv fun s S => ?q3) ku.or_nil))
   case q1 =>
    refine' Tv.cast (Tv.cmp (da:=.list (sums.map .int)) (db:=.list (sums.map .int)) R0 ?l1 ?l2 (zN.ne (xZ _) (xZ _)) rfl) (by rw [Ye]; rfl)
    case l1 | l2 => k_extra "z"
   case q2 =>
    refine' ku.cast' (ku.cmpL (da:=.list ((sums.take (sums.length - 1)).map .int)) (db:=.list ((sums.take (sums.length - 1)).map .int)) R0 ?m1 (fun s S => ?m2) (zN.ne (xZ _) (xZ _)) rfl) (by rw [Ye]; rfl)
    case m1 =>
     intro s S Q' hQ'
     refine' WZ H R S hL hfr hsz2 ?n1 (Ev.sliceB (lo:=none) (hi:=some (-1)) S.e ?n2 zd.none ?n3 ?n4) (fun _ => rfl) fun v s' S' rv => ?n5
     case n1 => k_extra "kd"
     case n2 | n3 => k_extra "z"
     case n4 => rw [sizeLine_eq]; k_extra "o"
     case n5 => rw [hrd] at rv; exact hQ' v s' S' rv
    case m2 =>
     refine' Ev.rd (Ev.cast (Ev.slice (xs:=sums.map .int) (lo:=none) (hi:=some (-1)) (st:=none) S.e ?n6 zd.none ?n7 zd.none (by decide) ?n8) ?n9)
     case n6 | n7 => k_extra "z"
     case n8 => rw [List.length_map,sizeLine_eq]; k_extra "o"
     case n9 => rw [wP,Xh]
   case q3 =>
    have ho : w8 8 (.list ((zM p).map .str)) = true:=V4 _ fun x hx => by
     obtain ⟨n,hn,rfl⟩:=List.mem_map.mp hx
     exact Fp.ok n (List.mem_range.mp hn)
    refine' Tv.cast (Tv.cmp (da:=.list ((zM p).map .str)) (db:=.list ((zM p).map .str)) R0 ?l3 (Ev.rd (Ev.cast (Ev.comp1 S.e R0 ?r1 (dsrc:=.list ((List.range 16).map fun n => .str (k8 p n))) ?r2 (List.range 16) (fun n => .str (k8 p n)) (zb.list _) (fun n => .str (zG p n)) ?r3 ?r4 ?r5 ?r6) ?r7)) (zN.ne ho ho) rfl) (by rw [yt ho]; rfl)
    case l3 => k_extra "z"
    case r1 => k_extra "kd"
    case r2 => k_extra "z"
    case r3 => k_extra "kd"
    case r4 => rw [List.length_range,sizeLine_eq]; decide
    case r5 => k_extra "fs"
    case r7 => unfold zM; rw [List.map_map]; rfl
    case r6 =>
     intro n hn env' h' M' kx hE
     have hn:=List.mem_range.mp hn
     have hs:=Fp.short n hn
     refine' Ev.bin (da:=.str (zv ++ k8 p n)) (db:=.str xq) hE (Ev.rd (Ev.bin (da:=.str zv) (db:=.str (k8 p n)) hE ?d1 ?d2 (yL.addS _ _ ?d3))) ?d4 (yL.addS _ _ ?d5)
     case d1 | d2 | d4 => k_extra "z"
     case d3 => rw [sizeLine_eq,show zv.length = 1 from rfl]; k_extra "o"
     case d5 => rw [sizeLine_eq,Str.length_append,show zv.length = 1 from rfl,show xq.length = 1 from rfl]; k_extra "o"
theorem Vy {le : Expr} {p : Nat} {p1 p2 p3 p4 p5 p6 : Pos} (S : En prog w B names env h M ρ μ) (hm : (Str.ofString "place",RV.dat (.int p)) ∈ ρ) (hv : Ev prog w A h le env (PR prog w M (.list (xR.map .str)))) (Fp : w9 p) :
  Ev prog w A h (.Subscript le (.Slice (some (.Name (Str.ofString "place") p1)) (some (.BinOp (.Name (Str.ofString "place") p2) .Add (.Constant (.int 4) 0 p3) p4)) none p5) p6) env (PS prog w M (.list ((zk p).map .str))):=by
 have q : zl (xR.map D.str) (some (p : Int)) (some ((p : Int) + 4)) none = (zk p).map .str:=by rw [wP,Fp.words]
 rw [← q]
 refine' Ev.slice S hv (zd.some (Ev.rd (Ev.name S hm (by decide)))) (zd.some (Ev.rd (Ev.bin S (Ev.rd (Ev.name S hm (by decide))) (Ev.rd (Ev.const_int _ _ _)) (yL.add _ _)))) zd.none (by decide) ?_
 rw [List.length_map,sizeLine_eq]; decide
theorem K5 : xR.map D.str = [.str (Str.ofString "OPTIMIZED"),.str (Str.ofString "NEWLOCALS"),.str (Str.ofString "VARARGS"),.str (Str.ofString "VARKEYWORDS"),.str (Str.ofString "NESTED"),.str (Str.ofString "GENERATOR"),.str (Str.ofString "NOFREE"),.str (Str.ofString "COROUTINE"),.str (Str.ofString "ITERABLE_COROUTINE"),.str (Str.ofString "ASYNC_GENERATOR"),.str (Str.ofString "0x400"),.str (Str.ofString "0x800"),.str (Str.ofString "0x1000")]:=rfl
theorem Kg (H : wC prog w B mg mb C N mN) (R : Rm A 3) {oc : Array UInt8} {sums : List Int} {p : Nat} {dr : List Nat} (Fp : w9 p) (hlen : sums.length ≤ 1000) (hdr : ((sums.take 4).filter fun t => decide (t.fmod 17 < 16)).map (fun t => t.fmod 17) = dr.map fun d : Nat => (d : Int))
  (S : St prog w B s₀ Own₀ M₀ zL env Own M [vP p,vR sums,vO oc,vS sums] μ s)
  (hQ : ∀ s',St prog w B s₀ Own₀ M₀ zL env Own M [vT p,vW p,vD dr,vP p,vR sums,vO oc,vS sums] μ s' → wpAny (model prog w) A (execs ((zC zt).drop 8) env) Q E s') :
  wpAny (model prog w) A (execs ((zC zt).drop 5) env) Q E s:=by
 have R0 : Rm A 0:=R.le (Nat.zero_le _)
 have G:=H.run.hdr.G
 have hr:=H.run.range
 have hp10:=Fp.lt
 show wpAny _ _ (execs (_ :: _ :: _ :: (zC zt).drop 8) env) _ _ _
 refine' km S ?a1 R0 ?a2 (dsrc:=.list ((sums.take 4).map .int)) ?a3 (sums.take 4) .int (zb.list _) (fun t => decide (t.fmod 17 < 16)) (fun t => .int (t.fmod 17)) ?a4 ?a5 ?a6 ?a7 ?a8
 case a1 | a2 | a4 => k_extra "kd"
 case a5 => rw [List.length_take,sizeLine_eq]; k_extra "o"
 case a6 => k_extra "fs"
 case a3 =>
  refine' Ev.rd (Ev.cast (Ev.slice (xs:=sums.map .int) (lo:=none) (hi:=some ((4 : Nat) : Int)) (st:=none) S.e ?qv zd.none ?qu zd.none (by decide) ?qz) ?qq)
  case qv | qu => k_extra "z"
  case qz => rw [List.length_map,sizeLine_eq]; k_extra "o"
  case qq => rw [wP,j7]
 case a7 =>
  intro z hz env' h' M' kx hE
  refine ⟨xO.one ?t1,fun _ => ?t2⟩
  case t1 | t2 => k_extra "z"
 case a8 =>
  k_extra "next"
  have e1 : ((sums.take 4).filter fun t => decide (t.fmod 17 < 16)).map (fun t => D.int (t.fmod 17)) = dr.map fun d : Nat => D.int d:=by
   have:=congrArg (List.map D.int) hdr
   rw [List.map_map,List.map_map] at this
   exact this
  rw [e1] at S
  have S2:=S.sub (ρ':=[(Str.ofString "drawn",.dat (.list (dr.map fun d : Nat => D.int d))),vP p,vR sums,vO oc,vS sums]) (by k_extra "sub")
  clear S
  have S:=S2
  clear S2
  refine' yK S ?b1 ?b2 ?b4 ?b3
  case b4 => rfl
  case b2 => k_extra "kd"
  case b1 =>
   refine @Vy _ _ _ _ _ _ _ _ _ _ _ _ _ _ _ _ _ _ S.e ?v1 ?v2 Fp
   case v1 => k_extra "mem"
   case v2 =>
    rw [K5]
    refine @Ev.rd _ _ _ _ _ _ _ _ (@Ev.list _ _ _ _ _ _ _ _ _ _ S.e _ _ _ ?vx ?vl)
    case vx => k_extra "z"
    case vl => rw [sizeLine_eq]; decide
  case b3 =>
   k_extra "next"
   obtain ⟨ff,ffd,HF,hbf⟩:=H.flags
   obtain ⟨fa,hfa,hT⟩:=H.flagT
   refine' yr S ?c1 R0 ?c2 (dsrc:=.rng 0 (16 : Nat) 1) ?c3 (List.range 16) (fun n : Nat => .int n) (zb.nat (by decide)) (fun n => .str (zG p n)) ?c4 ?c5 ?c6 ?c7 ?c8
   case c1 | c2 => k_extra "kd"
   case c3 => k_extra "z"
   case c4 => k_extra "kd"
   case c5 => rw [List.length_range,sizeLine_eq]; decide
   case c6 => k_extra "fs"
   case c7 =>
    intro n hn env' h' M' kx hE
    have hn:=List.mem_range.mp hn
    have hs:=Fp.short n hn
    refine' Ev.bin (da:=.str (zv ++ k8 p n)) (db:=.str xq) hE (Ev.rd (Ev.bin (da:=.str zv) (db:=.str (k8 p n)) hE ?d1 (Ev.rd ?d2) (yL.addS _ _ ?d3))) ?d4 (yL.addS _ _ ?d5)
    case d1 | d4 => k_extra "z"
    case d3 => rw [sizeLine_eq,show zv.length = 1 from rfl]; k_extra "o"
    case d5 => rw [sizeLine_eq,Str.length_append,show zv.length = 1 from rfl,show xq.length = 1 from rfl]; k_extra "o"
    case d2 =>
     refine' Ev.call hE (R.le (by decide : 1 ≤ 3)) ?f12 HF.keepy (xJ.cons ?x12 .nil fun _ => rfl) (zH.of_def G HF [Str.ofString "flags"] (ds:=[.int ((n : Int) * 2 ^ p)]) (fun vs hl s => ?_) rfl (by simp) (by k_extra "kd") rfl (Xa G hr H.hex hfa hT _ _ (Fp.fl n hn) (Fp.jf n hn)))
     case f12 => k_extra "z"
     case x12 =>
      refine' Ev.rd (Ev.bin (da:=.int n) (db:=.int p) hE ?e1 ?e2 (yL.shl _ _ ?e3 ?e4 ?e5))
      case e1 | e2 => k_extra "z"
      case e3 | e4 | e5 => k_extra "o"
     obtain ⟨a,rfl⟩:=QK hl
     exact hbf a s
   case c8 =>
    intro s' S'
    refine hQ s' (S'.sub ?_)
    have e2 : (List.range 16).map (fun n => D.str (zG p n)) = (zM p).map .str:=by unfold zM; rw [List.map_map]; rfl
    rw [e2]
    k_extra "sub"
end
section
variable {prog : Program} {w : World} {A : Around} {B : Heap} {s₀ s : Shared} {Own₀ M₀ Own M : Addr → Prop} {env : Env} {Q : Flow → Shared → Prop} {E : Value → Shared → Prop} {mg mb : Str → Option Value} {mN : Str → Option Value} {C N : Addr}
theorem QL (H : wC prog w B mg mb C N mN) (R : Rm A 5) (hL : env.frame = some env.locals) (hfr : A.frames = some [env]) {P Pr sa : Addr} (T : Tb B mg env P (xY env)) (hrun : Zd B mg Pr) (hP0 : Own₀ P) (hPr : Own₀ Pr) {vs : List Value} {sc : List Int} (hB : B.IsList sa vs.toArray) (hi : IntsAre vs sc) (hsc : sc.length ≤ 63)
  (S : St prog w B s₀ Own₀ M₀ zL env Own M [(Str.ofString "script",.val (.ref sa))] [(P,.obs P (tabObj #[]) []),(Pr,.obs Pr (tabObj #[]) [])] s)
  (hQ : ∀ Own' M' ρ' μ' s' ps os ps' os',St prog w B s₀ Own₀ M₀ zL env Own' M' ρ' μ' s' → (P,.obs P (tabObj ps) os) ∈ μ' → (Pr,.obs Pr (tabObj ps') os') ∈ μ' → Q (.ret (.bool true)) s') :
  wpAny (model prog w) A (execs (zC zt) env) Q E s:=by
 obtain ⟨ms,hms,hml,hmm⟩:=Jh sc
 obtain ⟨o1,o2,o3⟩:=QN hmm
 have o4:=Jc hmm
 have hne : ms ≠ []:=fun e => by rw [e] at hml; cases hml
 have hrd:=KM hmm o1
 have hrl:=Ji hmm hne o1
 rw [← hms] at o1 o2 o3 hrd hrl
 have hlen : (yE sc).length = 5:=by rw [hms,List.length_map]; exact hml
 have hsz : (byteArr (xe (yE sc))).size ≤ 1000:=by rw [byteArr_size]; omega
 have hsz2 : (KBy.picked (byteArr (xe (yE sc))) none (some (-1))).size ≤ 1000:=Nat.le_trans (KBc.size_picked_le _ _ _) hsz
 obtain ⟨t4,h4⟩ : ∃ t4,(yE sc)[4]? = some t4:=⟨_,List.getElem?_eq_getElem (by omega)⟩
 have hp0 : 0 ≤ t4.fmod 10 ∧ t4.fmod 10 < 10:=by rw [Int.fmod_eq_emod_of_nonneg _ (by decide)]; omega
 obtain ⟨p,hp⟩ : ∃ p : Nat,t4.fmod 10 = (p : Int):=⟨(t4.fmod 10).toNat,by omega⟩
 have Fp:=zAX (p:=p) (by omega)
 obtain ⟨dr,hdr,hd16,hdl⟩:=Vo (yE sc)
 have hso : ∀ t ∈ yE sc,0 ≤ t:=fun t ht => by
  rw [hms] at ht
  obtain ⟨m,_,rfl⟩:=List.mem_map.mp ht
  exact Int.natCast_nonneg m
 have Rf:=zAu (p:=p) Fp.lt hd16
 obtain ⟨still,asks,hch,hsa⟩:=Rf.chains
 refine Kt H hB hi hsc (R.le (by decide)) hso o2 (by omega) S fun s1 S => ?_
 refine Kc H (R.le (by decide)) hL hfr hsz hrd h4 hp S fun s1 S => ?_
 refine Kg H (R.le (by decide)) Fp (by omega) hdr S fun s1 S => ?_
 refine KQ H (R.le (by decide)) hL hfr Fp (by omega) hsz hsz2 hrl S fun s1 S => ?_
 refine K7 H (R.le (by decide)) S fun s1 S => ?_
 refine Kw H (R.le (by decide)) T (S.own₀ P hP0) hP0 S fun Ls Lb Le Own' M' ps os s1 hP hLs hLb hLe hT S => ?_
 refine KR H (R.le (by decide)) Fp hLs S fun bk s1 hI S => ?_
 refine Ke H (R.le (by decide)) Fp T hP hT hI S fun ps os s1 hT S => ?_
 refine KN H (R.le (by decide)) hL hfr Fp T hP hT S fun ps os s1 hT S => ?_
 refine Jj H R rfl Fp hd16 hdl hI hrun (S.own₀ Pr hPr) S fun ps' os' s1 S => ?_
 generalize Qz p dr = st at Rf hch S
 refine JV H R hdl S fun s1 S => ?_
 unfold vC at S
 rw [hch] at S
 refine Jp H R Fp hdl hsa S fun s1 S => ?_
 refine Jl H R Fp Rf S fun s1 S => ?_
 refine Qy H R (fun n hn => ZX Rf hn) T hP hT S fun ps os s1 S => ?_
 refine Jb H R hdl hLb S fun s1 S => ?_
 exact Q1 H R Fp S fun ρ' s1 S => hQ _ _ _ _ _ _ _ _ _ S jM j5
end
theorem zAF {B : Heap} {x : FnS} (hf : fnO B x.f = some (.type "function",x.fd)) (hc : WX B x.c = some x.q) (ok : WY x.fd = true) : ∃ fd,yB B x.d x.f fd ∧ fd.defaults = x.dfl ∧ fd.kwdefaults = x.kwd ∧ fd.code = .ref x.c:=by
 unfold fnO at hf
 obtain ⟨o,ho,hf⟩:=Option.bind_eq_some_iff.mp hf
 obtain ⟨cl,dt,⟨⟩ | ⟨⟩ | ⟨⟩ | ⟨⟩ | ⟨⟩ | ⟨⟩ | ⟨⟩ | fd | ⟨⟩ | ⟨⟩ | ⟨⟩,sl⟩:=o <;> try cases hf
 simp only [Option.some.injEq,Prod.mk.injEq] at hf
 obtain ⟨e1,e2⟩:=hf
 obtain ⟨f1,f2,f3,f4,f5,f6,f7,f8,f9,f10,f11,f12,f13,f14,f15⟩:=fd
 unfold FnS.fd at e2
 simp only [FuncData.mk.injEq] at e2
 obtain ⟨-,h2,h3,h4,h5,h6,h7,h8,h9, -, -, -,h13, -,h15⟩:=e2
 unfold WX at hc
 obtain ⟨oc,hoc,hc⟩:=Option.bind_eq_some_iff.mp hc
 have okF:=QG ok
 refine ⟨_,⟨⟨_,ho,rfl,e1⟩, ?_,⟨h6,h15, ?_, ?_, ?_, ?_, ?_, ?_⟩,h3,h4,h5,h7⟩,h8,h9,h13⟩
 · subst h13 h2
   split at hc
   · rename_i vs hd
     split at hc
     · rename_i q t hv
       cases hc
       exact ⟨_,oc,vs,t,rfl,hoc,hd,hv⟩
     · cases hc
   · cases hc
 · dsimp only; rw [h5]; exact okF.fn
 · dsimp only; rw [h5]; exact okF.co
 · dsimp only; rw [h5]; exact okF.gen
 · intro y hy; rw [h5] at hy; dsimp only; rw [h7]; exact okF.free y hy
 · intro y hy; rw [h5] at hy ⊢; exact okF.cell y hy
 · intro y z c e; dsimp only at e; rw [h7] at e; cases e
theorem yB.def {B : Heap} {mg : Str → Option Value} {name : Str} {d : Stmt} {f : Addr} {fd : FuncData} (H : yB B d f fd) (g : mg name = some (.ref f)) : zi B mg name d f fd :=
 ⟨g,by obtain ⟨o,e,q,_⟩:=H.get; exact ⟨o,e,q⟩,H.code,H.ok,H.args,H.body,H.scope,H.clo⟩
theorem Qj {B : Heap} {a : Addr} {code : Array Nat} (h : W6 B a = some (.type "re.Pattern",none,0,0,code)) : q6 B a code:=by
 unfold W6 at h
 obtain ⟨o,ho,h⟩:=Option.bind_eq_some_iff.mp h
 split at h
 · rename_i vs hd
   split at h
   · rename_i c h5
     split at h
     · rename_i oc its n x hoc
       simp only [Option.some.injEq,Prod.mk.injEq] at h
       exact ⟨o,vs,c,its,n,ho,h.1,h.2.1,hd,h.2.2.1,h.2.2.2.1,h5,⟨_,hoc,rfl⟩,h.2.2.2.2⟩
     · cases h
   · cases h
 · cases h
theorem Ki {B : Heap} {C N : Addr} {mN : Str → Option Value} (h : JU B C = some (.type "type",[.ref C,.type "object"],N,true,false,false,6,some (.builtin "object.__new__"))) (hN : B.Ns N mN) : ClsAt B C N mN:=by
 refine ⟨?_,hN⟩
 unfold JU at h
 obtain ⟨o,ho,h⟩:=Option.bind_eq_some_iff.mp h
 split at h
 · rename_i c hd
   simp only [Option.some.injEq,Prod.mk.injEq] at h
   obtain ⟨h1,h2,h3,h4,h5,h6,h7,h8⟩:=h
   obtain ⟨cl,dt,da,⟨sl⟩⟩:=o
   obtain ⟨c1,c2,c3,c4,c5,c6,c7,c8,c9,c10,c11⟩:=c
   rcases sl with _ | ⟨k0,_ | ⟨k1,_ | ⟨k2,_ | ⟨k3,_ | ⟨k,_ | ⟨k5,_ | ⟨_,_⟩⟩⟩⟩⟩⟩⟩ <;> first | (cases h7; done) | skip
   dsimp only at hd h1 h2 h3 h4 h5 h6
   subst hd h1 h2 h3 h4 h5 h6
   cases h8
   exact ⟨_,_,_,_,_,_,_,_,_,_,_,_,ho⟩
 · cases h
theorem WJ {prog : Program} {w : World} : ∀ {es : List DictEntry} {T : List (Int × Str)},es.map K8 = T.map (fun p => some (hashInt p.1,p.1,p.2)) → (∀ e ∈ es,∃ k,(PySem.intKind prog w).is k e.key = true ∧ e.hash = (PySem.intKind prog w).hash k) ∧
  ∃ kvs : List (Int × Value),Pairs (PySem.intKind prog w) es kvs ∧ kvs.map (·.1) = T.map (·.1) ∧ PyProof.V.FlatPairs PyData.int kvs (T.map fun p => (.int p.1,.str p.2))
 | [],[],_ => ⟨(fun _ h => by cases h),[],.nil,rfl,.nil⟩
 | [],_ :: _,h => by cases h
 | _ :: _,[],h => by cases h
 | e :: es,p :: T,h => by
  rw [List.map_cons,List.map_cons,List.cons.injEq] at h
  obtain ⟨h1,h2⟩:=h
  obtain ⟨g1,kvs,g2,g3,g4⟩:=WJ (prog:=prog) (w:=w) h2
  unfold K8 at h1
  split at h1
  · rename_i k t x u hk hv
    simp only [Option.some.injEq,Prod.mk.injEq] at h1
    obtain ⟨q1,q2,q3⟩:=h1
    subst q2 q3
    refine ⟨fun e' he => ?_,(p.1,e.val) :: kvs,.cons (by rw [hk]; simp [PySem.intKind,Value.isInt]) rfl g2,by rw [List.map_cons,List.map_cons,g3],.cons (by rw [hv]; exact .str _ _) g4⟩
    rcases List.mem_cons.mp he with e2 | he
    · subst e2
      exact ⟨p.1,by rw [hk]; simp [PySem.intKind,Value.isInt],q1⟩
    · exact g1 e' he
  · cases h1
theorem Ka {prog : Program} {w : World} {B : Heap} {a : Addr} {T : List (Int × Str)} (h : Xu B a = some (.type "dict",none,[],T.map fun p => some (hashInt p.1,p.1,p.2))) (ha : (a == sysModules) = false) (hn : (T.map (·.1)).Nodup) : TabAt (PySem.intKind prog w) PyData.int B a (T.map fun p => (.int p.1,.str p.2)):=by
 unfold Xu at h
 obtain ⟨o,ho,h⟩:=Option.bind_eq_some_iff.mp h
 split at h
 · rename_i es ep hd
   simp only [Option.some.injEq,Prod.mk.injEq] at h
   obtain ⟨h1,h2,h3,h4⟩:=h
   obtain ⟨g1,kvs,g2,g3,g4⟩:=WJ (prog:=prog) (w:=w) h4
   exact ⟨ha,kvs,⟨o,es,ep,ho,⟨h1,h2,by rw [← Array.toList_inj,h3]⟩,hd,fun e he => g1 e (Array.mem_toList_iff.mpr he),g2,by rw [g3]; exact hn⟩,g4⟩
 · cases h
theorem QY {B : Heap} {c P : Addr} (h : chO B c P = true) : CodeHd B c P:=by
 unfold chO at h
 cases ho : B.get? c with
 | none => rw [ho] at h; cases h
 | some o =>
  rw [ho] at h
  refine codeHd_of_K (K:=[(c,o)]) (fun a o' e => ?_) h
  rw [List.lookup_cons] at e
  split at e
  · rename_i q
    rw [beq_iff_eq.mp q,ho]; exact e
  · cases e
theorem KJ {B : Heap} {mg : Str → Option Value} {bm : Addr} (h : Jn B bm = some (.type "module",some builtinsNs,true)) (g : mg "__builtins__" = some (.ref bm)) (h1 : bm ≠ builtinsNs) (h2 : bm ≠ mainGlobals) : Bm B mg:=by
 unfold Jn at h
 obtain ⟨o,ho,h⟩:=Option.map_eq_some_iff.mp h
 simp only [Prod.mk.injEq] at h
 refine ⟨bm,o,g,h1,h2,ho,h.1,h.2.1, ?_⟩
 have h3:=h.2.2
 split at h3
 · assumption
 · cases h3
theorem X5 {h : Heap} {a : Addr} {x : Value} {l : List Value} (e : Xo h a = x :: l) : ∃ o n,h.get? a = some o ∧ o.data = .seq (x :: l).toArray n:=by
 unfold Xo at e
 cases ho : h.get? a with
 | none => rw [ho] at e; cases e
 | some o =>
  rw [ho] at e
  dsimp only at e
  split at e
  · rename_i its n hd
    exact ⟨o,n,rfl,by rw [hd,← e]⟩
  · cases e
theorem zAW {v : Value} (h : zV v = true) : ∃ t,v = .int 0 t:=by
 cases v <;> first | (cases h; done) | exact ⟨_,by rw [beq_iff_eq.mp h]⟩
theorem KC {v : Value} (h : nV v = true) : v = .none:=by
 cases v <;> first | (cases h; done) | rfl
theorem Z1 {B : Heap} {i : Nat} (hP : KH (wx (yM pw i))) {f : Addr} {fd : FuncData} {T K : Addr} (H : yB B (yM pw i) f fd) (hd : fd.defaults = .ref T) (hk : fd.kwdefaults = .ref K) (h1 : Qe B T = true) (h2 : B.isNs K = true) (h3 : B.nsMap K "key" = some .none) : ∃ t,qQ B fd t:=by
 simp only [Qe,Bool.and_eq_true,beq_iff_eq] at h1
 obtain ⟨⟨q1,q2⟩,q3⟩:=h1
 obtain ⟨x,y,e⟩:=zAa q1
 rw [e] at q2 q3
 obtain ⟨t,rfl⟩:=zAW (v:=x) q2
 obtain rfl:=KC (v:=y) q3
 obtain ⟨o,n,ho,hs⟩:=X5 e
 exact ⟨t,H.args ▸ hP,⟨T,o,n,hd,ho,hs⟩,⟨K,_,hk,.of_isNs h2,h3⟩⟩
theorem Je {v : Option Value} {x : Str} (h : Wc v = some x) : ∃ t,v = some (.str x t):=by
 unfold Wc at h
 split at h
 · cases h; exact ⟨_,rfl⟩
 · cases h
theorem Jk {B : Heap} {fd : FuncData} {T : Addr} (hd : fd.defaults = .ref T) (hk : fd.kwdefaults = .none) (h : Ql B T = true) : Kl B fd:=by
 simp only [Ql,Bool.and_eq_true,beq_iff_eq] at h
 obtain ⟨x,e⟩:=QK h.1
 have q:=h.2
 rw [e] at q
 obtain rfl:=KC (v:=x) q
 obtain ⟨o,n,ho,hs⟩:=X5 e
 exact ⟨hk,T,o,n,hd,ho,hs⟩
theorem zAL : (fns.all fun x => WY x.fd) = true:=by decide +kernel
structure qN (B : Heap) : Prop where
 fn : ∀ x ∈ fns,(fnO B x.f,WX B x.c) = (some (.type "function",x.fd),some x.q)
 gl : ∀ p ∈ glL,B.nsMap mainGlobals p.1 = p.2.map Value.ref
 bl : ∀ p ∈ blL,(B.nsMap mainGlobals p.1,B.nsMap builtinsNs p.1) = (none,some p.2)
 cl : ∀ p ∈ clL,B.nsMap 230 p.1 = p.2.map Value.ref
 ok : ∀ b ∈ okL B,b = true
 key : ∀ a ∈ ([40,49,58] : List Addr),B.nsMap a "key" = some .none
 mark : Wc (B.nsMap mainGlobals "ELLIPSIS_MARKER") = some zT
 rn : W6 B 97 = some (.type "re.Pattern",none,0,0,yV)
 rv : W6 B 102 = some (.type "re.Pattern",none,0,0,xf)
 cls : JU B 231 = some (.type "type",[.ref 231,.type "object"],230,true,false,false,6,some (.builtin "object.__new__"))
 tab : Xu B 66 = some (.type "dict",none,[],jC.map fun p => some (hashInt p.1,p.1,p.2))
 md : Jn B 4 = some (.type "module",some builtinsNs,true)
theorem WQ {B : Heap} (e : Jr B = Jf) : qN B:=by
 unfold Jr Jf at e
 obtain ⟨e1,e⟩:=Prod.mk.inj e
 obtain ⟨e2,e⟩:=Prod.mk.inj e
 obtain ⟨e3,e⟩:=Prod.mk.inj e
 obtain ⟨e4,e⟩:=Prod.mk.inj e
 obtain ⟨e5,e⟩:=Prod.mk.inj e
 obtain ⟨e6,e⟩:=Prod.mk.inj e
 obtain ⟨e7,e⟩:=Prod.mk.inj e
 obtain ⟨e8,e⟩:=Prod.mk.inj e
 obtain ⟨e9,e⟩:=Prod.mk.inj e
 obtain ⟨e10,e⟩:=Prod.mk.inj e
 obtain ⟨e11,e12⟩:=Prod.mk.inj e
 exact ⟨List.map_inj_left.mp e1,List.map_inj_left.mp e2,List.map_inj_left.mp e3,List.map_inj_left.mp e4,fun b hb => List.all_eq_true.mp e5 b hb,List.map_inj_left.mp e6,e7,e8,e9,e10,e11,e12⟩
theorem qN.fnAt {B : Heap} (T : qN B) {d : Stmt} {f c : Addr} {q : String} {dfl kwd : Value} (i : Nat) (h : fns[i]? = some (YH d f c q dfl kwd)) : ∃ fd,yB B d f fd ∧ fd.defaults = dfl ∧ fd.kwdefaults = kwd ∧ fd.code = .ref c:=by
 have hm:=List.mem_of_getElem? h
 obtain ⟨h1,h2⟩:=Prod.mk.inj (T.fn _ hm)
 exact zAF h1 h2 (List.all_eq_true.mp zAL _ hm)
theorem qN.glAt {B : Heap} (T : qN B) {x : Str} {a : Addr} (i : Nat) (h : glL[i]? = some (x,some a)) : B.nsMap mainGlobals x = some (.ref a):=T.gl _ (List.mem_of_getElem? h)
theorem qN.blAt {B : Heap} (T : qN B) {x : Str} {v : Value} (i : Nat) (h : blL[i]? = some (x,v)) : B.nsMap mainGlobals x = none ∧ B.nsMap builtinsNs x = some v:=Prod.mk.inj (T.bl _ (List.mem_of_getElem? h))
theorem qN.clAt {B : Heap} (T : qN B) {x : Str} {a : Option Addr} (i : Nat) (h : clL[i]? = some (x,a)) : B.nsMap 230 x = a.map Value.ref:=T.cl _ (List.mem_of_getElem? h)
theorem qN.okAt {B : Heap} (T : qN B) {b : Bool} (i : Nat) (h : (okL B)[i]? = some b) : b = true:=T.ok _ (List.mem_of_getElem? h)
theorem qN.g {B : Heap} (T : qN B) : Gl B (B.nsMap mainGlobals) (B.nsMap builtinsNs) :=
 ⟨.of_isNs (T.okAt 0 rfl),.of_isNs (T.okAt 1 rfl),⟨_,.of_isNs (T.okAt 2 rfl),Option.isNone_iff_eq_none.mp (T.okAt 13 rfl)⟩⟩
theorem wu {d : Stmt} {fd : FuncData} {x : Str} (hp : fd.params = wx d) (hd : fd.defaults = .none) (hk : fd.kwdefaults = .none) (h : ∀ f1 f2 f4 f5 f6 f7 f10 f11 f12 f13 f14 f15 v,bindArgs (⟨f1,f2,wx d,f4,f5,f6,f7,.none,.none,f10,f11,f12,f13,f14,f15⟩ : FuncData) ⟨[v],[]⟩ = pure [(x,v)]) : ∀ v s,BindsTo s fd ⟨[v],[]⟩ [(x,v)]:=by
 obtain ⟨f1,f2,f3,f4,f5,f6,f7,f8,f9,f10,f11,f12,f13,f14,f15⟩:=fd
 dsimp only at hp hd hk
 subst hp hd hk
 exact fun v s => .of_eq (h _ _ _ _ _ _ _ _ _ _ _ _ v)
theorem zAr {prog : Program} {w : World} {B : Heap} (T : qN B) : wC prog w B (B.nsMap mainGlobals) (B.nsMap builtinsNs) 231 230 (B.nsMap 230):=by
 have G:=T.g
 obtain ⟨fi,I1,I2,I3,I4⟩:=T.fnAt 0 rfl
 obtain ⟨fr,R1,R2,R3,R4⟩:=T.fnAt 1 rfl
 obtain ⟨fl,L1,L2,L3,L4⟩:=T.fnAt 2 rfl
 obtain ⟨fp,P1,P2,P3,_⟩:=T.fnAt 3 rfl
 obtain ⟨fv,V1,V2,V3,_⟩:=T.fnAt 4 rfl
 obtain ⟨fe,E1,E2,E3,_⟩:=T.fnAt 5 rfl
 obtain ⟨fo,O1,O2,O3,_⟩:=T.fnAt 6 rfl
 obtain ⟨fd,D1,D2,D3,_⟩:=T.fnAt 7 rfl
 obtain ⟨fn,N1,N2,N3,_⟩:=T.fnAt 8 rfl
 obtain ⟨m0,A1,A2,A3,_⟩:=T.fnAt 11 rfl
 obtain ⟨m1,B1,B2,B3,_⟩:=T.fnAt 12 rfl
 obtain ⟨m7,C1,C2,C3,_⟩:=T.fnAt 13 rfl
 obtain ⟨m9,F1,F2,F3,_⟩:=T.fnAt 14 rfl
 obtain ⟨ma,H1,H2,H3,_⟩:=T.fnAt 15 rfl
 obtain ⟨mb,K1,K2,K3,_⟩:=T.fnAt 16 rfl
 obtain ⟨mc,M1,M2,M3,_⟩:=T.fnAt 17 rfl
 have hdr : qX B (B.nsMap mainGlobals) (B.nsMap builtinsNs) 231 230 (B.nsMap 230):=by
  refine ⟨G,Ki T.cls (.of_isNs (T.okAt 3 rfl)),T.clAt 0 rfl,T.clAt 1 rfl,T.clAt 2 rfl,T.clAt 3 rfl,⟨_,m0,T.clAt 4 rfl,A1, ?_⟩,⟨_,m1,T.clAt 5 rfl,B1, ?_⟩,⟨_,m7,T.clAt 6 rfl,C1, ?_⟩,⟨_,m9,T.clAt 7 rfl,F1, ?_⟩,⟨_,ma,T.clAt 8 rfl,H1, ?_⟩,⟨_,mb,T.clAt 9 rfl,K1, ?_⟩,⟨_,mc,T.clAt 10 rfl,M1, ?_⟩,
    ⟨97,T.glAt 13 rfl,Qj T.rn⟩,⟨102,T.glAt 14 rfl,Qj T.rv⟩,T.blAt 11 rfl,T.blAt 12 rfl,T.blAt 13 rfl⟩
  · exact Jk A2 A3 (T.okAt 14 rfl)
  · have hp:=B1.args
    clear A1 B1 C1 F1 H1 K1 M1 I1 R1 L1 P1 V1 E1 O1 D1 N1
    obtain ⟨f1,f2,f3,f4,f5,f6,f7,f8,f9,f10,f11,f12,f13,f14,f15⟩:=m1
    dsimp only at hp B2 B3
    subst hp B2 B3
    exact fun s a b k => .of_eq rfl
  · have hp:=C1.args
    clear A1 B1 C1 F1 H1 K1 M1 I1 R1 L1 P1 V1 E1 O1 D1 N1
    obtain ⟨f1,f2,f3,f4,f5,f6,f7,f8,f9,f10,f11,f12,f13,f14,f15⟩:=m7
    dsimp only at hp C2 C3
    subst hp C2 C3
    exact fun s a b => .of_eq rfl
  · exact fun s a => wu F1.args F2 F3 (fun _ _ _ _ _ _ _ _ _ _ _ _ _ => rfl) a s
  · exact fun s a => wu H1.args H2 H3 (fun _ _ _ _ _ _ _ _ _ _ _ _ _ => rfl) a s
  · exact fun s a => wu K1.args K2 K3 (fun _ _ _ _ _ _ _ _ _ _ _ _ _ => rfl) a s
  · have hp:=M1.args
    clear A1 B1 C1 F1 H1 K1 M1 I1 R1 L1 P1 V1 E1 O1 D1 N1
    obtain ⟨f1,f2,f3,f4,f5,f6,f7,f8,f9,f10,f11,f12,f13,f14,f15⟩:=mc
    dsimp only at hp M2 M3
    subst hp M2 M3
    intro s a n v M A E Q hQ
    refine (show wpAny M A (alloc Y1 >>= fun d => pure [(Str.ofString "self",a),(Str.ofString "_name",n),(Str.ofString "_value",v),(Str.ofString "_params",.ref d)]) Q E s from ?_)
    exact wpAny_bind (wpAny_alloc (wpAny_pure hQ))
 have bis : J1 B (B.nsMap mainGlobals) (B.nsMap builtinsNs):=by
  obtain ⟨t1,q1⟩:=Z1 ⟨_,_,_,_,_,_,_,_,rfl⟩ I1 I2 I3 (T.okAt 7 rfl) (T.okAt 4 rfl) (T.key 40 (.head _))
  obtain ⟨t2,q2⟩:=Z1 ⟨_,_,_,_,_,_,_,_,rfl⟩ R1 R2 R3 (T.okAt 8 rfl) (T.okAt 5 rfl) (T.key 49 yo)
  obtain ⟨t3,q3⟩:=Z1 ⟨_,_,_,_,_,_,_,_,rfl⟩ L1 L2 L3 (T.okAt 9 rfl) (T.okAt 6 rfl) (T.key 58 xA)
  exact ⟨G,T.blAt 0 rfl,⟨_,fi,t1,I1.def (T.glAt 0 rfl),q1⟩,⟨_,fr,t2,R1.def (T.glAt 1 rfl),q2⟩,⟨_,fl,t3,L1.def (T.glAt 2 rfl),q3⟩⟩
 have ell : YV B (B.nsMap mainGlobals) (B.nsMap builtinsNs):=by
  refine ⟨G,T.blAt 0 rfl,Je T.mark,_,fe,E1.def (T.glAt 5 rfl), ?_⟩
  have hp:=E1.args
  clear A1 B1 C1 F1 H1 K1 M1 I1 R1 L1 P1 V1 E1 O1 D1 N1
  obtain ⟨f1,f2,f3,f4,f5,f6,f7,f8,f9,f10,f11,f12,f13,f14,f15⟩:=fe
  dsimp only at hp E2 E3
  subst hp E2 E3
  exact fun a b s => .of_eq rfl
 refine ⟨⟨hdr,ell,bis,KJ T.md (T.glAt 15 rfl) (by decide) (by decide),T.blAt 1 rfl,fun z => ?_⟩,T.glAt 11 rfl,T.blAt 2 rfl,T.blAt 3 rfl,T.blAt 4 rfl,T.blAt 5 rfl,T.blAt 6 rfl,T.blAt 7 rfl,T.blAt 8 rfl,T.blAt 9 rfl,T.blAt 10 rfl,
  ⟨66,T.glAt 12 rfl,Ka T.tab (by decide) (by decide)⟩,⟨_,fo,O1.def (T.glAt 6 rfl),wu O1.args O2 O3 fun _ _ _ _ _ _ _ _ _ _ _ _ _ => rfl⟩,⟨_,fp,P1.def (T.glAt 3 rfl),wu P1.args P2 P3 fun _ _ _ _ _ _ _ _ _ _ _ _ _ => rfl⟩,⟨_,fn,N1.def (T.glAt 8 rfl),wu N1.args N2 N3 fun _ _ _ _ _ _ _ _ _ _ _ _ _ => rfl⟩,⟨_,fv,V1.def (T.glAt 4 rfl),wu V1.args V2 V3 fun _ _ _ _ _ _ _ _ _ _ _ _ _ => rfl⟩,⟨_,fd,D1.def (T.glAt 7 rfl),wu D1.args D2 D3 fun _ _ _ _ _ _ _ _ _ _ _ _ _ => rfl⟩⟩
 have:=T.okAt 12 rfl
 rw [z] at this; cases this
theorem VO.ext {B B' : Heap} {mg mb mN : Str → Option Value} {C N : Addr} (H : VO B mg mb C N mN) (X : zR B B') : VO B' mg mb C N mN:=by
 refine ⟨H.hdr.ext X,H.ell.ext X,H.bis.ext X, ?_,H.range,fun z => ?_⟩
 · obtain ⟨bm,o,b1,b2,b3,b4,b5⟩:=H.bm
   exact ⟨bm,o,b1,b2,b3,X _ _ b4,b5⟩
 · cases e : B.get? sysModules with
   | none => exact H.sys e
   | some o => rw [X _ _ e] at z; cases z
theorem wC.ext {prog : Program} {w : World} {B B' : Heap} {mg mb mN : Str → Option Value} {C N : Addr} (H : wC prog w B mg mb C N mN) (X : zR B B') : wC prog w B' mg mb C N mN :=
 { H with
  run:=H.run.ext X
  flagT:=let ⟨fa,h1,h2⟩:=H.flagT; ⟨fa,h1,h2.keep X⟩
  oct:=let ⟨f,fd,h1,h2⟩:=H.oct; ⟨f,fd,h1.ext X,h2⟩
  flags:=let ⟨f,fd,h1,h2⟩:=H.flags; ⟨f,fd,h1.ext X,h2⟩
  name:=let ⟨f,fd,h1,h2⟩:=H.name; ⟨f,fd,h1.ext X,h2⟩
  pv:=let ⟨f,fd,h1,h2⟩:=H.pv; ⟨f,fd,h1.ext X,h2⟩
  read:=let ⟨f,fd,h1,h2⟩:=H.read; ⟨f,fd,h1.ext X,h2⟩ }
theorem Xq {B B' : Heap} {c P : Addr} (H : CodeHd B c P) (X : zR B B') : CodeHd B' c P:=by
 obtain ⟨o,vs,f,tf,fl,tg,i,tx,tt,h,r⟩:=H
 exact ⟨o,vs,f,tf,fl,tg,i,tx,tt,X _ _ h,r⟩
theorem Q5 {B₀ h : Heap} (l : List Addr) (X : zR B₀ h) : zR (hideAll B₀ l) (hideAll h l):=fun a o e => by
 refine hideAll_get _ (X _ _ (of_hideAll _ e)) fun m => ?_
 rw [hideAll_none _ m] at e; cases e
theorem JR {h : Heap} {a : Addr} {m m' : Str → Option Value} (x : h.Ns a m) (y : h.Ns a m') : m = m':=by
 obtain ⟨o,es,ep,h1,h2,h3,h4⟩:=x
 obtain ⟨o',es',ep',g1,g2,g3,g4⟩:=y
 rw [h1] at g1; cases g1
 rw [h2] at g2; cases g2
 funext y
 rw [← h4,g4]
theorem zAU {B : Heap} (T : qN B) : Zd B (B.nsMap mainGlobals) 256:=by
 obtain ⟨f,F1,F2,F3,F4⟩:=T.fnAt 9 rfl
 refine ⟨_,f,T.glAt 9 rfl,F1,⟨_,F4,QY (T.okAt 10 rfl)⟩, ?_⟩
 have hp:=F1.args
 clear F1
 obtain ⟨f1,f2,f3,f4,f5,f6,f7,f8,f9,f10,f11,f12,f13,f14,f15⟩:=f
 dsimp only at hp F2 F3
 subst hp F2 F3
 exact fun s a b c => .of_eq rfl
theorem Zd.ext {B B' : Heap} {mg : Str → Option Value} {Pr : Addr} (H : Zd B mg Pr) (X : zR B B') : Zd B' mg Pr:=by
 obtain ⟨f,fd,h1,h2,⟨c,h3,h4⟩,h5⟩:=H.fn
 exact ⟨f,fd,h1,h2.ext X,⟨c,h3,Xq h4 X⟩,h5⟩
theorem Kn {h h' : Heap} (hk : ∀ a o,a ∉ xN → h.get? a = some o → h'.get? a = some o) (ht : ∀ a ∈ xN,h.get? a = some (tabObj #[]) ∧ isCodeTable h a ∧ ∃ ps,h'.get? a = some (tabObj ps)) : OldK h h':=by
 refine ⟨fun b o e => ?_,fun b o e => ?_⟩
 · by_cases hb : b ∈ xN
   · obtain ⟨h1,h2,ps,h3⟩:=ht b hb
     rw [h1] at e; cases e
     refine .inr (.inl ⟨h2,rfl,#[],ps,rfl, ?_⟩)
     rw [h3]; simp [tabObj]
   · exact .inl (hk b o hb e)
 · by_cases hb : b ∈ xN
   · obtain ⟨h1,h2,ps,h3⟩:=ht b hb
     exact ⟨_,h3⟩
   · exact ⟨o,hk b o hb e⟩
theorem YS {B h : Heap} {c P : Addr} (H : CodeHd B c P) (X : zR B h) : isCodeTable h P:=by
 obtain ⟨o,vs,f,tf,fl,tg,i,tx,tt,h1,h2,h3,h4,_⟩:=H
 exact ⟨c,o,vs,X _ _ h1,h2,h3,h4⟩
theorem Vp {prog : Program} {w : World} {s₁ : Shared} (Y : wT.says w s₁.heap) {sa : Addr} {vs : List Value} {sc : List Int} (hL : s₁.heap.IsList sa vs.toArray) (hi : IntsAre vs sc) (hsc : sc.length ≤ 63) {Q E : Value → Shared → Prop}
   (hQ : ∀ h' tk,OldK s₁.heap h' → Q (.bool true) { s₁ with heap:=h',toks:=tk }) : wpAny (model prog w) callerA (PySem.call (.ref 264) [.ref sa]) Q E s₁:=by
 obtain ⟨B₀,e,ht,hx⟩:=Y
 have T:=WQ e
 have X:=Q5 xN hx
 have H:=(zAr (prog:=prog) (w:=w) T).ext X
 have hr:=(zAU T).ext X
 obtain ⟨f,F1,F2,F3,F4⟩:=T.fnAt 10 rfl
 have ha : ∀ a ∈ xN,s₁.heap.get? a = some (tabObj #[]):=fun a m => hx _ _ (ht a m)
 have hch:=Xq (QY (T.okAt 11 rfl)) X
 have hcr:=Xq (QY (T.okAt 10 rfl)) X
 have hB : (hideAll s₁.heap xN).IsList sa vs.toArray:=by
   obtain ⟨o,h1,h2⟩:=hL
   refine ⟨o,hideAll_get _ h1 fun m => ?_,h2⟩
   rw [ha _ m] at h1; cases h1
   exact absurd h2.1 (by simp [tabObj])
 generalize hideAll B₀ xN = B at T X H hr F1
 refine wy (args:=⟨[.ref sa],[]⟩) (M₁:=fun a => a ∈ xN) (B:=hideAll s₁.heap xN) (k:=5) (H.run.hdr.G) (F1.ext X) (wu F1.args F2 F3 (fun _ _ _ _ _ _ _ _ _ _ _ _ _ => rfl) (.ref sa) s₁) (by simp only [List.map_cons,List.map_nil]; decide) (by kernel_rfl) ⟨rfl,by decide,by decide⟩ (yO _) (fun a m => ⟨_,ha a m⟩)
   (fun a => a ∈ xN) (fun a m => ⟨m,xl _ m⟩) [(Str.ofString "script",.val (.ref sa))] ?_ [(261,.obs 261 (tabObj #[]) []),(256,.obs 256 (tabObj #[]) [])] ?_ (by decide) ?_
 · intro x r hm
   cases List.mem_singleton.mp hm
   exact ⟨_,.head _,rfl⟩
 · refine all_cons ?_ (all_cons ?_ all_nil)
   · exact .tab (ha _ (.head _)) fun p hp => by cases hp
   · exact .tab (ha _ yo) fun p hp => by cases hp
 · intro env Own M s₂ hLe R hO hMM S
   obtain ⟨L,rfl⟩:=hLe
   refine QL H R rfl rfl ⟨⟨_,H.run.hdr.G⟩,H.run.bm,⟨263,F4,hch⟩,Yx _⟩ hr (.head _) yo hB hi hsc S fun Own' M' ρ' μ' s' ps os ps' os' S' m1 m2 => ?_
   obtain ⟨h',tk,rfl⟩:=S'.same
   refine hQ h' tk (Kn (fun a o n e => S'.keep a o n e) fun a m => ⟨ha a m, ?_, ?_⟩)
   · rcases List.mem_cons.mp m with q | m
     · rw [q]; exact YS hch (yO _)
     · rw [List.mem_singleton.mp m]; exact YS hcr (yO _)
   · rcases List.mem_cons.mp m with q | m
     · rw [q]
       cases S'.e.mem _ _ m1 with
       | tab p _ => exact ⟨_,p⟩
     · rw [List.mem_singleton.mp m]
       cases S'.e.mem _ _ m2 with
       | tab p _ => exact ⟨_,p⟩
theorem holds_all : VZ.Holds:=by
 refine head fun d hdn => ?_
 intro w s₀ s₁ mg mb G Y fa o pm cd doc dV kV ho hd hcd hD hmg hg args vals as hpre hlay hrd hwl hlo
 have hfa : fa = 264:=by
  obtain ⟨B₀,e,ht,hx⟩:=Y
  have T:=WQ e
  have h1:=(T.g.g.keeps (yO xN)).keeps hx
  have h2:=JR G.T.g h1
  rw [h2,hdn,T.glAt 10 rfl] at hmg
  cases hmg; rfl
 subst hfa
 clear ho hd hcd hD hmg
 wrow_args hpre hlay hrd hwl hlo
 refine Vp Y (by assumption) (by assumption) (by omega) fun h' tk K => ?_
 exact ⟨.inl ⟨.bool true,_,[],rfl,raisesW_false (by wrow_none_raised),ReadsW.bool true,by wrow_post,fun _ => ⟨.nil,fun a h => by cases h⟩⟩,K,rfl,.of_eq hg⟩
end Mine
theorem PySem.Challenge.cw_ta0093_01_holds : PySem.Challenge.rw_ta0093_01.Holds :=
 Mine.holds_all
